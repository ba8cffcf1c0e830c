import PyProof.Rows.All
import Wide.All
import OpenK.AllK
import Wide.FinOn
import Lean
import PySem.Challenge.RW_in0311_01
set_option rowWalk.seconds 0
open PySem PySem.W PySem.Calls PyProof.Rows
set_option Elab.async false
set_option compiler.extract_closed false
set_option maxRecDepth 100000
set_option maxHeartbeats 8000000
namespace Mine
section
local macro_rules | `(tactic| o_head $_) => `(tactic| assumption)
/-- says nothing: it lays the constant hd.heap_1, the part of the heap that the walk knows -/
theorem hd (hyp : PySem.Challenge.rw_in0311_01.row.Holds) : PySem.Challenge.rw_in0311_01.row.Holds := by
  k_head
end

noncomputable abbrev Pg : Program := PySem.Challenge.rw_in0311_01.row.prog
noncomputable abbrev KH (w : World) : Frag := hd.heap_1 w.params
abbrev TR (V : Program) (Lo : List Str) (mg mb : Str → Option Value) (h : Heap) : Prop := TopRead V Lo mg mb h

section
variable {prog : Program} {w : World} {A : Around} {E : Value → Shared → Prop} {s : Shared} {K : Frag} {mg mb : Str → Option Value} {p : Program} {loose : List Str} {Q : Value → Shared → Prop}

theorem enter {name qual : Str} {params : Arguments} {body : List Stmt} {scope : Scope} {dV kV doc pm cdv ct oc : Value} {an od : Option Addr} {osl : Array (Option Value)} {f : Addr} {args : Args} {binds : List (Str × Value)}
    (X₀ : K.In s.heap) (T : TopRead p loose mg mb s.heap)
    (ho : K.lookup f = some ⟨oc, od, .func (fnOf name qual params body scope dV kV doc pm an cdv ct), osl⟩) (hcd : codeIn K cdv qual = true) (hroom : A.depth < recursionLimit)
    (hbind : BindsTo s (fnOf name qual params body scope dV kV doc pm an cdv ct) args binds) (hloc : ∀ y ∈ binds, scope.names.lookup y.1 = some .local)
    (h : ∀ L' h₁, Fr s.heap L' h₁ (fun y => binds.reverse.lookup y) → News s.heap L' h₁ [] →
      wpAny (model prog w) (A.deeper (envOf qual scope L' f cdv)) (execs body (envOf qual scope L' f cdv))
        (fun fl s' => Q (match fl with | .ret v => v | _ => .none) s')
        (fun _ _ => False)
        { s with heap := h₁, toks := s.toks + binds.length })
    (hco : scope.isCoroutine = false) (hgen : scope.isGenerator = false) (hk : scope.kind = .function)
    (hcell : ∀ x ∈ scope.names, x.2 ≠ .cell) : wpAny (model prog w) A (call (.ref f) args.pos args.kw) Q E s := by
  refine wpAny_call ?_
  refine codeAny_call_def (fd := fnOf name qual params body scope dV kV doc pm an cdv ct) (body := body) (binds := binds) hroom (X₀ _ _ ho) rfl T.nolimit (codeRec_of X₀ hcd) rfl hbind hcell hloc (fun h₁ hns hk₁ => ?_) hco hgen hk
  exact wpAny_mono (h s.heap.objs.size h₁ ⟨hns, hk₁, Nat.le_refl _⟩ News.nil) (fun _ _ y => y) fun _ _ y => y.elim

theorem enterC {name qual : Str} {params : Arguments} {body : List Stmt} {scope : Scope} {dV kV doc pm cdv ct oc : Value} {an od : Option Addr} {osl : Array (Option Value)} {f : Addr} {args : Args} {binds : List (Str × Value)}
    (X₀ : K.In s.heap) (T : TopRead p loose mg mb s.heap)
    (ho : K.lookup f = some ⟨oc, od, .func (fnOf name qual params body scope dV kV doc pm an cdv ct), osl⟩) (hcd : codeIn K cdv qual = true) (hroom : A.depth < recursionLimit)
    (hbind : BindsTo s (fnOf name qual params body scope dV kV doc pm an cdv ct) args binds)
    (hkind : (binds.all fun y => scope.names.lookup y.1 == some .local || scope.names.lookup y.1 == some .cell) = true)
    (hnd : ((cellsFrom 0 scope.names []).map (·.1)).Nodup)
    (h : ∀ L' h₁ tk cells, Fr s.heap L' h₁ (bindL (envOfC qual scope L' f cdv).kindOf binds fun _ => none) → News s.heap L' h₁ cells →
      CellsAre (bindC (envOfC qual scope L' f cdv).kindOf binds fun _ => none) (cellsFrom (L' + 1) scope.names []) cells →
      wpAny (model prog w) (A.deeper (envOfC qual scope L' f cdv)) (execs body (envOfC qual scope L' f cdv))
        (fun fl s' => Q (match fl with | .ret v => v | _ => .none) s')
        (fun _ _ => False)
        { s with heap := h₁, toks := tk })
    (hco : scope.isCoroutine = false) (hgen : scope.isGenerator = false) (hk : scope.kind = .function) : wpAny (model prog w) A (call (.ref f) args.pos args.kw) Q E s := by
  refine wpAny_call ?_
  refine codeAny_call_function hroom (X₀ _ _ ho) rfl hco hgen rfl (codeRec_of X₀ hcd) (hbind _ _ _ _ ?_)
  refine wpAny_newFunctionEnv_cells hk (kindsX hkind _) fun env' he s' x => ?_
  subst he
  refine ⟨T.nolimit.keeps x.toInCall.keep, codeAny_func ?_⟩
  obtain ⟨h₁, tk, rfl, _⟩ := x.done
  have hk₁ := x.toInCall.keep
  obtain ⟨cells, NC, Y⟩ := Cl.news (h₀ := s.heap) (Nat.le_refl _) fun n c hm => ⟨x.cell n c (lookup_of_mem_nodup (cellsFrom_names scope.names 0 (s.heap.objs.size + 1) [] [] rfl ▸ hnd) hm), x.above n c hm⟩
  exact wpAny_mono (h s.heap.objs.size h₁ tk cells ⟨x.toInCall.ns, hk₁, Nat.le_refl _⟩ NC Y) (fun _ _ y => y) fun _ _ y => y.elim
end
theorem enterR {prog : Program} {w : World} {A : Around} {E : Value → Shared → Prop} {s : Shared} {K : Frag} {mg mb : Str → Option Value} {p : Program} {loose : List Str} {Q : Value → Shared → Prop}
    {name qual : Str} {params : Arguments} {body : List Stmt} {scope : Scope} {dV kV doc pm cdv ct oc : Value} {an od : Option Addr} {osl : Array (Option Value)} {f : Addr} {args : Args} {vs : List Value} {binds : Value → List (Str × Value)}
    (X₀ : K.In s.heap) (T : TopRead p loose mg mb s.heap)
    (ho : K.lookup f = some ⟨oc, od, .func (fnOf name qual params body scope dV kV doc pm an cdv ct), osl⟩) (hcd : codeIn K cdv qual = true) (hroom : A.depth < recursionLimit)
    (hp : bindArgs (fnOf name qual params body scope dV kV doc pm an cdv ct) args = (newTuple vs >>= fun d => pure (binds d))) (hvs : vs.length ≤ sizeLine)
    (hloc : ∀ D, ∀ y ∈ binds D, scope.names.lookup y.1 = some .local)
    (h : ∀ D L' h₁ tk, Fr s.heap L' h₁ (fun y => (binds (.ref D)).reverse.lookup y) → News s.heap L' h₁ [(D, ({ cls := .type "tuple", data := .seq vs.toArray } : Obj))] →
      wpAny (model prog w) (A.deeper (envOf qual scope L' f cdv)) (execs body (envOf qual scope L' f cdv))
        (fun fl s' => Q (match fl with | .ret v => v | _ => .none) s')
        (fun _ _ => False)
        { s with heap := h₁, toks := tk })
    (hco : scope.isCoroutine = false) (hgen : scope.isGenerator = false) (hk : scope.kind = .function)
    (hcell : ∀ x ∈ scope.names, x.2 ≠ .cell) : wpAny (model prog w) A (call (.ref f) args.pos args.kw) Q E s := by
  refine wpAny_call ?_
  refine codeAny_call_function (fd := fnOf name qual params body scope dV kV doc pm an cdv ct) (body := body) hroom (X₀ _ _ ho) rfl hco hgen rfl (codeRec_of X₀ hcd) ?_
  rw [hp]
  refine wpAny_bind (wpAny_newObj_type (wpAny_pure ?_) (by show vs.toArray.size ≤ sizeLine; rw [List.size_toArray]; exact hvs))
  refine wpAny_newFunctionEnv hcell (hloc _) (fun h₁ hns hsb => ⟨(T.nolimit.keeps (fun b o e => Heap.get?_push_of_some _ e)).fresh _ hsb, codeAny_func ?_⟩) hk
  have hk₁ : ∀ b o, (s.heap.push ({ cls := .type "tuple", data := .seq vs.toArray } : Obj)).get? b = some o → h₁.get? b = some o := fun b o e => hsb.extBut b o (Nat.ne_of_lt (Heap.lt_size e)) (Heap.get?_push_of_some _ e)
  have hfr : s.heap.get? s.heap.objs.size = none := by
    cases q : s.heap.get? s.heap.objs.size with
    | none => rfl
    | some o => exact absurd (Heap.lt_size q) (Nat.lt_irrefl _)
  refine wpAny_mono (h s.heap.objs.size _ h₁ _ ⟨hns, fun b o e => hk₁ b o (Heap.get?_push_of_some _ e), ?_⟩ ?_) (fun _ _ y => y) fun _ _ y => y.elim
  · rw [Heap.size_push]; exact Nat.le_succ _
  · intro p hp
    rw [List.mem_singleton] at hp
    subst hp
    refine ⟨hk₁ _ _ (Heap.get?_push_size _ rfl), ?_, hfr⟩
    show s.heap.objs.size ≠ (s.heap.push _).objs.size
    rw [Heap.size_push]; exact Nat.ne_of_lt (Nat.lt_succ_self _)
theorem frGo {h₀ h h' : Heap} {L : Addr} {m : Str → Option Value} (F : Fr h₀ L h m) (k : h.StaysIn h') : Fr h₀ L h' m := ⟨F.ns.keeps k, fun b o e => k b o (F.keep b o e), F.above⟩
theorem newsGo {h₀ h h' : Heap} {L : Addr} {news : List (Addr × Obj)} (N : News h₀ L h news) (k : h.StaysIn h') : News h₀ L h' news := fun p hp => ⟨k _ _ (N p hp).1, (N p hp).2.1, (N p hp).2.2⟩
/-- a goal that the walker leaves -/
def Held (P : Prop) : Prop := P
theorem held {P : Prop} (h : Held P) : P := h
local macro_rules | `(tactic| k_lt $h:ident) => `(tactic| (replace $h := allLt_of $h; simp only [AllLt, and_true] at $h:ident; repeat (with_reducible (have hLt := And.left $h; replace $h := And.right $h))))
local macro_rules | `(tactic| walk_at "my:r") => `(tactic| first | with_reducible assumption | exact And.right (by first | with_reducible assumption | exact And.right (by first | with_reducible assumption | exact And.right (by first | with_reducible assumption | exact And.right (by first | with_reducible assumption | exact And.right (by first | with_reducible assumption | exact And.right (by with_reducible assumption)))))))
local macro_rules | `(tactic| walk_at "my:conj") => `(tactic| first | with_reducible assumption | exact Ne.symm (by with_reducible assumption) | exact And.left (And.left (by walk_at "my:r")) | exact And.left (And.right (And.left (by walk_at "my:r"))) | exact And.right (And.right (And.left (by walk_at "my:r"))) | exact And.left (by walk_at "my:r") | exact And.left (And.right (by walk_at "my:r")) | exact And.right (And.right (by walk_at "my:r")))
local macro_rules | `(tactic| k_ne) => `(tactic| (refine neN ?_; (try dsimp only); first | exact Nat.ne_of_gt (by with_reducible assumption) | exact Nat.ne_of_lt (by with_reducible assumption) | walk_at "my:conj"))
local macro_rules | `(tactic| k_room) => `(tactic| ((try simp only [depth_under_make, depth_under_kw, depth_in1, depth_deeper, depth_caller]); omega))
local macro_rules | `(tactic| k_units) => `(tactic| ((try simp only [units_deeper, units_in1, Around.mark_units]); omega))
local macro_rules | `(tactic| walk_at "my:cases") => `(tactic| ((case k1 => k_is); (case k2 => k_is); (case k3 => k_room); (case k4 => exact BindsTo.of_eq rfl); (case k5 => exact locs rfl); (case k6 => exact rfl); (case k7 => exact rfl); (case k8 => exact rfl); (case k9 => decide)))
local macro_rules | `(tactic| walk_at "my:carry") => `(tactic| ((with_reducible rename Heap.StaysIn _ _ => kS); (with_reducible rename Fr _ _ _ _ => kF); (with_reducible rename News _ _ _ _ => kN); (have F' := frGo kF kS); (have N' := newsGo kN kS); clear kF kN kS))
local macro_rules | `(tactic| walk_at "my:FN") => `(tactic| ((case F => k_asm); (case N => k_asm)))
local macro_rules | `(tactic| walk_at "my:site") => `(tactic| ((case sX => k_in); (case sT => first | with_reducible assumption | exact TopRead.keeps (by with_reducible assumption) (Fr.keep (by with_reducible assumption)) | assumption | exact TopRead.keeps (by k_asm) (Fr.keep (by k_asm))); (case sd => k_room); (case su => k_units)))

theorem kind_issubclass_nested : builtinKind "issubclass.nested" = none := by decide +kernel
theorem plain_issubclass_nested : plainId "issubclass.nested" = true := by decide +kernel
theorem args_issubclass_nested_3 (a b c : Value) : argsOk "issubclass.nested" ⟨[a, b, c], []⟩ := by unfold argsOk; kernel_rfl
theorem sub_str_str : isSubtype (.type "str") (.type "str") = pure true := by rw [isSubtype_type]; kernel_rfl
theorem typ_str : typeOf (.type "str") = pure (.type "type") := by kernel_rfl

section
variable {prog : Program} {w : World} {A : Around} {E : Value → Shared → Prop}
theorem issub_leaf {dep : Int} {tk : Tok} {s : Shared} {Q : Fin → Shared → Prop} (hq : Q (.done (.ret (.bool true))) s) :
   wpAny (model prog w) A (Builtin.«issubclass.nested» ⟨[.type "str", .type "str", .int dep tk], []⟩) Q E s := by
  have f1 := sub_str_str
  have f2 := typ_str
  repeat (any_goals (first | assumption | wp_step))
theorem fn_code {id : String} {B : Builtin} {args : List Value} {S : PySem.Spec} {R : Result → Shared → Prop} {s : Shared} (kind : builtinKind id = none) (plain : plainId id = true)
    (entry : entryFor table id = some B) (ok : argsOk id ⟨args, []⟩) (g : Meets (B ⟨args, []⟩) S) (h : S A R s) : codeAny (model prog w) A (.call (.builtin id) ⟨args, []⟩) R s := by
  refine codeAny_call_builtin plain entry ?_
  have hfin := g prog w A R s h
  simp only [checkBuiltinCall, kind]
  cases hsig : Manifest.signature? id with
  | none => exact wpAny_pure hfin
  | some sig =>
    simp only [argsOk, hsig] at ok
    have h2 : Bind.checkArgs id sig ⟨args, []⟩ = pure () := ok
    show wpAny _ _ (Bind.checkArgs id sig ⟨args, []⟩) _ _ s
    rw [h2]; exact wpAny_pure hfin
theorem call_issub {tp : Addr} {c : Value} {s : Shared} {Q : Value → Shared → Prop} (htp : s.heap.get? tp = some { cls := .type "tuple", data := .seq #[.type "str", c] })
    (hq : ∀ t, Q (.bool true) { s with toks := t }) : wpAny (model prog w) A (call (.builtin "issubclass") [.type "str", .ref tp]) Q E s := by
  refine call_function_meets (S := fun _ R s => s.heap.get? tp = some { cls := .type "tuple", data := .seq #[.type "str", c] } ∧ ∀ t, R (.ok (.ret (.bool true))) { s with toks := t })
     F.kind_issubclass F.plain_issubclass F.entry_issubclass (F.args_issubclass_2 _ _) ?_ ⟨htp, hq⟩
  intro prog w A R s ⟨htp, hq⟩
  refine issubclass_outer ?_
  obtain ⟨h, g, d, t, os⟩ := s
  have hT2 : (⟨h, g, d, t, os⟩ : Shared).TypeIs (.ref tp) "tuple" := ⟨_, htp, rfl⟩
  have f1 := F.isi_sub_tuple
  repeat (any_goals (first | assumption | wp_step))
  refine fn_code (args := [.type "str", .type "str", rawInt (0 + 1)]) (S := fun (_ : Around) (R : Result → Shared → Prop) s => R (.ok (.ret (.bool true))) s) kind_issubclass_nested plain_issubclass_nested F.entry_issubclass_nested (args_issubclass_nested_3 _ _ _)
    (fun _ _ _ _ _ hs => issub_leaf hs) ?_
  dsimp only
  repeat (any_goals (first | assumption | wp_step))
  exact hq _
end
local macro_rules | `(tactic| walk_at "call builtin:issubclass") => `(tactic| (k_here; refine call_issub (News.get (by k_asm) (by k_mem)) ?_; intro _))

/-! plain laws of texts -/
section
open PySem.Builtin PySem.Builtin.Str
def tx (l : List Nat) : Str := ⟨l.toArray⟩
theorem tx_toList (l : List Nat) : (tx l).cps.toList = l := rfl
theorem tx_of (x : Str) : tx x.cps.toList = x := by cases x; rfl
theorem tx_len (l : List Nat) : (tx l).length = l.length := by show l.toArray.size = _; simp
theorem tx_app (a b : List Nat) : tx a ++ tx b = tx (a ++ b) := Str.ext' (by rw [Str.cps_append]; simp [tx])
theorem tx_inj {a b : List Nat} (h : tx a = tx b) : a = b := congrArg (fun x : Str => x.cps.toList) h
theorem tx_beq (a b : List Nat) : (tx a == tx b) = (a == b) := by
  rw [Bool.eq_iff_iff]; simp only [beq_iff_eq]; exact ⟨tx_inj, fun h => by rw [h]⟩
theorem tx_bne (a b : List Nat) : (tx a != tx b) = (a != b) := by simp only [bne, tx_beq]
theorem clip_hi (l : Option Int) {j : Int} {len : Nat} (h : (len : Int) ≤ j) : strSliceIndices l (some j) 1 len = strSliceIndices l (some (len : Int)) 1 len := by
  have a : ¬ ((len : Int) < 0) := by omega
  have b : ¬ (j < 0) := by omega
  have c : min j (len : Int) = len := by omega
  simp [strSliceIndices, a, b, c]
theorem clip_lo (l : Option Int) {j : Int} {len : Nat} (h : (len : Int) ≤ j) : strSliceIndices (some j) l 1 len = strSliceIndices (some (len : Int)) l 1 len := by
  have a : ¬ ((len : Int) < 0) := by omega
  have b : ¬ (j < 0) := by omega
  have c : min j (len : Int) = len := by omega
  simp [strSliceIndices, a, b, c]
theorem slice_is (x : List Nat) {a b : Nat} (hab : a ≤ b) : Txt.slice (tx x) (some (a : Int)) (some (b : Int)) = tx ((x.drop a).take (b - a)) := by
  by_cases hb : b ≤ x.length
  · exact StrLaws.sliceText_nat (tx x) hab (by rw [tx_len]; exact hb)
  · have e1 : Txt.slice (tx x) (some (a : Int)) (some (b : Int)) = Txt.slice (tx x) (some (a : Int)) (some (x.length : Int)) := by
      unfold Txt.slice; rw [tx_len, clip_hi _ (by omega)]
    by_cases ha : a ≤ x.length
    · rw [e1]
      refine (StrLaws.sliceText_nat (tx x) ha (by rw [tx_len]; exact Nat.le_refl _)).trans ?_
      show tx ((x.drop a).take (x.length - a)) = _
      rw [List.take_of_length_le (by simp), List.take_of_length_le (by simp; omega)]
    · have e2 : Txt.slice (tx x) (some (a : Int)) (some (x.length : Int)) = Txt.slice (tx x) (some (x.length : Int)) (some (x.length : Int)) := by
        unfold Txt.slice; rw [tx_len, clip_lo _ (by omega)]
      rw [e1, e2]
      refine (StrLaws.sliceText_nat (tx x) (Nat.le_refl _) (by rw [tx_len]; exact Nat.le_refl _)).trans ?_
      show tx ((x.drop x.length).take (x.length - x.length)) = _
      rw [List.drop_of_length_le (Nat.le_refl _), List.drop_of_length_le (by omega)]; simp
theorem slice_to (x : List Nat) (b : Nat) : Txt.slice (tx x) none (some (b : Int)) = tx (x.take b) := by
  have e : Txt.slice (tx x) none (some (b : Int)) = Txt.slice (tx x) (some ((0 : Nat) : Int)) (some (b : Int)) := by unfold Txt.slice; rw [StrLaws.sliceIdx_none_lo]; rfl
  rw [e, slice_is x (Nat.zero_le _)]; rfl
theorem slice_from (x : List Nat) (a : Nat) : Txt.slice (tx x) (some (a : Int)) none = tx (x.drop a) := by
  have e : Txt.slice (tx x) (some (a : Int)) none = Txt.slice (tx x) (some (a : Int)) (some ((max a x.length : Nat) : Int)) := by
    unfold Txt.slice; rw [StrLaws.sliceIdx_none_hi, clip_hi (some (a : Int)) (j := ((max a x.length : Nat) : Int)) (len := (tx x).length) (by rw [tx_len]; omega)]
  rw [e, slice_is x (Nat.le_max_left _ _)]
  rw [List.take_of_length_le (by simp; omega)]
theorem starts_one (x : List Nat) (c : Nat) : Txt.startswith (tx x) (tx [c]) = (x.head? == some c) := by
  unfold Txt.startswith
  rw [StrLaws.subAt_eq]
  cases x with
  | nil => rfl
  | cons a r => simp [Str.length, tx]
theorem ends_one (x : List Nat) (c : Nat) : Txt.endswith (tx x) (tx [c]) = (x.getLast? == some c) := by
  unfold Txt.endswith
  rw [StrLaws.subAt_eq]
  rcases List.eq_nil_or_concat x with rfl | ⟨r, a, rfl⟩
  · rfl
  · simp [Str.length, tx]
theorem lstrip_is (x cs : List Nat) : Txt.lstripChars (tx x) (tx cs) = tx (x.dropWhile fun c => cs.contains c) := by
  have hc : (fun c => (tx cs).cps.contains c) = fun c => cs.contains c := by funext c; simp [tx]
  have hd : ∀ l : List Nat, l.drop (l.takeWhile fun c => cs.contains c).length = l.dropWhile fun c => cs.contains c := fun l => by
    induction l with
    | nil => rfl
    | cons a r ih => simp only [List.takeWhile_cons, List.dropWhile_cons]; split <;> simp_all
  unfold Txt.lstripChars Txt.stripBy
  have h1 : stripLo (tx cs).cps.contains true (tx x) = (x.takeWhile fun c => cs.contains c).length := by
    show (x.takeWhile (tx cs).cps.contains).length = _
    rw [show (tx cs).cps.contains = (fun c => cs.contains c) from hc]
  have h2 : ∀ n, stripHi (tx cs).cps.contains false (tx x) n = x.length := fun n => tx_len x
  split
  · rename_i h
    unfold stripSame at h
    rw [h1, h2] at h
    simp only [Bool.and_eq_true, beq_iff_eq] at h
    rw [← hd, h.1]; rfl
  · unfold PySem.stripped
    rw [h1, h2]
    apply Str.ext'
    apply Array.toList_inj.mp
    rw [StrLaws.strSub_toList]
    show (x.drop _).take (x.length - _) = x.dropWhile _
    rw [List.take_of_length_le (by rw [List.length_drop]; exact Nat.le_refl _), hd]
end

section
open PySem.Builtin PySem.Builtin.Str
def jn (c : Nat) : List (List Nat) → List Nat
  | [] => []
  | [x] => x
  | x :: y :: r => x ++ c :: jn c (y :: r)
theorem join_is (c : Nat) : ∀ ps : List (List Nat), Str.join (tx [c]) (ps.map tx) = tx (jn c ps)
  | [] => rfl
  | [x] => rfl
  | x :: y :: r => by
    have ih := join_is c (y :: r)
    show tx x ++ tx [c] ++ Str.join (tx [c]) ((y :: r).map tx) = tx (x ++ c :: jn c (y :: r))
    rw [ih, tx_app, tx_app]; simp
theorem txtjoin_is (c : Nat) (ps : List (List Nat)) : Txt.join (tx [c]) (ps.map tx) = tx (jn c ps) := (StrLaws.glued_eq_join _ _).trans (join_is c ps)
theorem jn_inj_head {c : Nat} : ∀ {x y a b : List Nat}, c ∉ x → c ∉ y → x ++ c :: a = y ++ c :: b → x = y ∧ a = b
  | [], [], _, _, _, _, h => by simpa using h
  | [], y :: r, _, _, _, hy, h => by
    simp only [List.nil_append, List.cons_append, List.cons.injEq] at h
    exact absurd (h.1 ▸ List.mem_cons_self) hy
  | x :: r, [], _, _, hx, _, h => by
    simp only [List.nil_append, List.cons_append, List.cons.injEq] at h
    exact absurd (h.1 ▸ List.mem_cons_self) hx
  | x :: r, y :: t, a, b, hx, hy, h => by
    simp only [List.cons_append, List.cons.injEq] at h
    have := jn_inj_head (c := c) (x := r) (y := t) (fun q => hx (List.mem_cons_of_mem _ q)) (fun q => hy (List.mem_cons_of_mem _ q)) h.2
    exact ⟨by rw [h.1, this.1], this.2⟩
theorem jn_inj {c : Nat} : ∀ {ps qs : List (List Nat)}, ps ≠ [] → qs ≠ [] → (∀ p ∈ ps, c ∉ p) → (∀ p ∈ qs, c ∉ p) → jn c ps = jn c qs → ps = qs
  | [], _, h, _, _, _, _ => absurd rfl h
  | _, [], _, h, _, _, _ => absurd rfl h
  | [x], [y], _, _, _, _, h => by rw [show x = y from h]
  | [x], y :: z :: r, _, _, hp, _, h => by
    have hx := hp x (List.mem_singleton.mpr rfl)
    have h' : x = y ++ c :: jn c (z :: r) := h
    exact absurd (by rw [h']; simp) hx
  | x :: z :: r, [y], _, _, _, hq, h => by
    have hy := hq y (List.mem_singleton.mpr rfl)
    have h' : x ++ c :: jn c (z :: r) = y := h
    exact absurd (by rw [← h']; simp) hy
  | x :: z :: r, y :: u :: t, _, _, hp, hq, h => by
    have h' : x ++ c :: jn c (z :: r) = y ++ c :: jn c (u :: t) := h
    have := jn_inj_head (hp x List.mem_cons_self) (hq y List.mem_cons_self) h'
    have ih := jn_inj (ps := z :: r) (qs := u :: t) (by simp) (by simp) (fun p q => hp p (List.mem_cons_of_mem _ q)) (fun p q => hq p (List.mem_cons_of_mem _ q)) this.2
    rw [this.1, ih]
theorem map_tx_of (l : List Str) : (l.map fun x => x.cps.toList).map tx = l := by
  rw [List.map_map]; exact (List.map_congr_left fun x _ => tx_of x).trans (List.map_id l)
theorem split_ne (x y : Str) : Txt.split x y ≠ [] := by
  unfold Txt.split
  split
  · simp
  · split
    · simp
    · rw [StrLaws.partsBetween_eq]
      obtain ⟨p, r, e⟩ := StrLaws.partsFrom_ne x y.length 0 (occurrences x y 0 x.length (x.length + 1))
      rw [e]; simp
theorem split_is {c : Nat} {ps : List (List Nat)} (hne : ps ≠ []) (hf : ∀ p ∈ ps, c ∉ p) : Txt.split (tx (jn c ps)) (tx [c]) = ps.map tx := by
  have h1 := StrLaws.join_split (tx (jn c ps)) (tx [c])
  have h2 := StrLaws.split_free (tx (jn c ps)) c
  have h3 := split_ne (tx (jn c ps)) (tx [c])
  have h2' : ∀ p ∈ Txt.split (tx (jn c ps)) (tx [c]), c ∉ p.cps.toList := h2
  revert h1 h2' h3
  generalize Txt.split (tx (jn c ps)) (tx [c]) = qs
  intro h1 h3 h2'
  have e := map_tx_of qs
  rw [← e, join_is] at h1
  have := jn_inj (c := c) (ps := qs.map fun x => x.cps.toList) (qs := ps) (by simpa using h3) hne (by
    intro p hp
    obtain ⟨q, hq, rfl⟩ := List.mem_map.mp hp
    exact h2' q hq) hf (tx_inj h1)
  rw [← e, this]
theorem jn_nil_iff {c : Nat} : ∀ {ps : List (List Nat)}, (∀ p ∈ ps, p ≠ []) → (jn c ps = [] ↔ ps = [])
  | [], _ => by simp [jn]
  | [x], h => by simpa [jn] using h x (by simp)
  | x :: y :: r, _ => by simp [jn]
theorem jn_head {c : Nat} : ∀ {ps : List (List Nat)}, (∀ p ∈ ps, p ≠ [] ∧ c ∉ p) → (jn c ps).head? ≠ some c
  | [], _ => by simp [jn]
  | [x], h => by
    obtain ⟨h1, h2⟩ := h x (by simp)
    cases x with
    | nil => exact absurd rfl h1
    | cons a r => simp only [jn, List.head?_cons]; intro e; cases e; exact h2 (by simp)
  | x :: y :: r, h => by
    obtain ⟨h1, h2⟩ := h x (by simp)
    cases x with
    | nil => exact absurd rfl h1
    | cons a r => simp only [jn, List.cons_append, List.head?_cons]; intro e; cases e; exact h2 (by simp)
theorem jn_last {c : Nat} : ∀ {ps : List (List Nat)}, (∀ p ∈ ps, p ≠ [] ∧ c ∉ p) → (jn c ps).getLast? ≠ some c
  | [], _ => by simp [jn]
  | [x], h => by
    obtain ⟨h1, h2⟩ := h x (by simp)
    intro e
    exact h2 (List.mem_of_getLast? e)
  | x :: y :: r, h => by
    have ih := jn_last (c := c) (ps := y :: r) (fun p hp => h p (List.mem_cons_of_mem _ hp))
    have hne : jn c (y :: r) ≠ [] := fun e => by
      have := (jn_nil_iff (c := c) (ps := y :: r) (fun p hp => (h p (List.mem_cons_of_mem _ hp)).1)).mp e
      cases this
    intro e
    apply ih
    have : (x ++ c :: jn c (y :: r)).getLast? = some c := e
    rw [List.getLast?_append, List.getLast?_cons] at this
    cases hj : (jn c (y :: r)).getLast? with
    | none => rw [List.getLast?_eq_none_iff] at hj; exact absurd hj hne
    | some b => rw [hj] at this; simpa using this
theorem jn_len {c : Nat} : ∀ {ps : List (List Nat)}, (∀ p ∈ ps, p ≠ []) → ps.length ≤ (jn c ps).length
  | [], _ => Nat.le_refl _
  | [x], h => by
    have := h x (by simp)
    cases x with
    | nil => exact absurd rfl this
    | cons a r => simp [jn]
  | x :: y :: r, h => by
    have ih := jn_len (c := c) (ps := y :: r) (fun p hp => h p (List.mem_cons_of_mem _ hp))
    show (y :: r).length + 1 ≤ (x ++ c :: jn c (y :: r)).length
    simp only [List.length_append, List.length_cons] at *
    omega
theorem jn_sum {c : Nat} : ∀ {ps : List (List Nat)}, (ps.map List.length).sum ≤ (jn c ps).length
  | [] => Nat.le_refl _
  | [x] => by simp [jn]
  | x :: y :: r => by
    have ih := jn_sum (c := c) (ps := y :: r)
    show x.length + ((y :: r).map List.length).sum ≤ (x ++ c :: jn c (y :: r)).length
    simp only [List.length_append, List.length_cons] at *
    omega
theorem jn_mem_len {c : Nat} : ∀ {ps : List (List Nat)} {p : List Nat}, p ∈ ps → p.length ≤ (jn c ps).length
  | [x], p, h => by rw [List.mem_singleton.mp h]; exact Nat.le_refl _
  | x :: y :: r, p, h => by
    show p.length ≤ (x ++ c :: jn c (y :: r)).length
    rcases List.mem_cons.mp h with rfl | h
    · simp
    · have ih := jn_mem_len (c := c) (ps := y :: r) h
      simp only [List.length_append, List.length_cons] at *
      omega
def wt (ps : List (List Nat)) : Nat := (ps.map fun p => p.length + 1).sum
theorem wt_cons (x : List Nat) (r : List (List Nat)) : wt (x :: r) = x.length + 1 + wt r := by simp [wt]
theorem wt_app (a b : List (List Nat)) : wt (a ++ b) = wt a + wt b := by simp [wt]
theorem jn_le_wt {c : Nat} : ∀ {ps : List (List Nat)}, (jn c ps).length ≤ wt ps
  | [] => Nat.le_refl _
  | [x] => by simp [jn, wt]
  | x :: y :: r => by
    have ih := jn_le_wt (c := c) (ps := y :: r)
    show (x ++ c :: jn c (y :: r)).length ≤ _
    rw [wt_cons]
    simp only [List.length_append, List.length_cons] at *
    omega
theorem wt_le_jn {c : Nat} : ∀ {ps : List (List Nat)}, wt ps ≤ (jn c ps).length + 1
  | [] => Nat.zero_le _
  | [x] => by simp [jn, wt]
  | x :: y :: r => by
    have ih := wt_le_jn (c := c) (ps := y :: r)
    show _ ≤ (x ++ c :: jn c (y :: r)).length + 1
    rw [wt_cons]
    simp only [List.length_append, List.length_cons] at *
    omega
theorem wt_dropLast (ps : List (List Nat)) : wt ps.dropLast ≤ wt ps := by
  rcases List.eq_nil_or_concat ps with rfl | ⟨r, a, rfl⟩
  · exact Nat.le_refl _
  · rw [List.concat_eq_append, List.dropLast_concat, wt_app]; omega
theorem jn_take_le {c : Nat} : ∀ {a b : List (List Nat)}, (jn c a).length ≤ (jn c (a ++ b)).length
  | [], _ => Nat.zero_le _
  | [x], [] => Nat.le_refl _
  | [x], y :: r => by show x.length ≤ (x ++ c :: jn c (y :: r)).length; simp
  | x :: y :: r, b => by
    have ih := jn_take_le (c := c) (a := y :: r) (b := b)
    show (x ++ c :: jn c (y :: r)).length ≤ (x ++ c :: jn c ((y :: r) ++ b)).length
    simp only [List.length_append, List.length_cons] at *
    omega
theorem jn_snoc {c : Nat} (x : List Nat) : ∀ {ps : List (List Nat)}, ps ≠ [] → jn c (ps ++ [x]) = jn c ps ++ c :: x
  | [], h => absurd rfl h
  | [y], _ => rfl
  | y :: z :: r, _ => by
    have ih := jn_snoc (c := c) x (ps := z :: r) (by simp)
    show y ++ c :: jn c ((z :: r) ++ [x]) = (y ++ c :: jn c (z :: r)) ++ c :: x
    rw [ih]; simp
end
theorem lit_slash : Str.ofString "/" = tx [47] := by decide +kernel
theorem lit_empty : Str.ofString "" = tx [] := by decide +kernel
theorem lit_dot : Str.ofString "." = tx [46] := by decide +kernel
theorem lit_dd : Str.ofString ".." = tx [46, 46] := by decide +kernel
theorem lit_ddd : Str.ofString "..." = tx [46, 46, 46] := by decide +kernel
theorem lit_sp : Str.ofString " " = tx [32] := by decide +kernel
theorem lit_a : Str.ofString "a" = tx [97] := by decide +kernel
theorem lit_b : Str.ofString "b" = tx [98] := by decide +kernel
theorem lit_ab : Str.ofString "ab" = tx [97, 98] := by decide +kernel
theorem sl_1 (x : List Nat) : Txt.slice (tx x) none (some 1) = tx (x.take 1) := slice_to x 1
theorem sl_1_ (x : List Nat) : Txt.slice (tx x) (some 1) none = tx (x.drop 1) := slice_from x 1
theorem sl_12 (x : List Nat) : Txt.slice (tx x) (some 1) (some 2) = tx ((x.drop 1).take 1) := slice_is x (a := 1) (b := 2) (by decide)
theorem sl_23 (x : List Nat) : Txt.slice (tx x) (some 2) (some 3) = tx ((x.drop 2).take 1) := slice_is x (a := 2) (b := 3) (by decide)
theorem sl_2 (x : List Nat) : Txt.slice (tx x) none (some 2) = tx (x.take 2) := slice_to x 2
theorem sl_2_ (x : List Nat) : Txt.slice (tx x) (some 2) none = tx (x.drop 2) := slice_from x 2
local macro_rules | `(tactic| walk_at "my:dec") => `(tactic| (simp only [sl_1, sl_1_, sl_12, sl_23, sl_2, sl_2_, lit_slash, lit_empty, lit_dot, lit_dd, lit_sp, tx_bne, tx_beq, List.take, List.drop, starts_one, ends_one, List.isEmpty_cons, List.isEmpty_nil, Bool.not_false, Bool.not_true, Bool.not_not, Bool.false_eq_true, not_false_eq_true, not_true_eq_false]; first | done | decide | assumption | (simp only [*, Bool.false_eq_true, not_false_eq_true, not_true_eq_false, Bool.not_false, Bool.not_true]; done)))
local macro_rules | `(tactic| walk_at "ite") => `(tactic| first | refine ite_pos (by walk_at "my:dec") ?_ | refine ite_neg (by walk_at "my:dec") ?_)

/-! a for loop by an invariant over the frame's map and the ledger; the target is any -/
def itc (o : Obj) : Bool := (match o.cls with
  | .type n => n == "list_iterator" || n == "tuple_iterator" || n == "range_iterator" || n == "enumerate"
  | _ => false) && (match o.data with | .fields _ => true | _ => false)
def NoIt (nx : List (Addr × Obj)) : Prop := ∀ p ∈ nx, itc p.2 = false
theorem NoIt.nil : NoIt [] := fun _ h => nomatch h
theorem NoIt.cons {a : Addr} {o : Obj} {r : List (Addr × Obj)} (h : itc o = false) (hr : NoIt r) : NoIt ((a, o) :: r) := fun p hp => by
  rcases List.mem_cons.mp hp with rfl | hp
  · exact h
  · exact hr p hp
theorem NoIt.app {a b : List (Addr × Obj)} (x : NoIt a) (y : NoIt b) : NoIt (a ++ b) := fun p hp => (List.mem_append.mp hp).elim (x p) (y p)
def MyTurnEnd (h₀ : Heap) (L : Addr) (J : (Str → Option Value) → List (Addr × Obj) → Prop) (own : List (Addr × Obj)) (s₁ s₂ : Shared) : Prop :=
  ∃ h' tk m' nx, s₂ = { s₁ with heap := h', toks := tk } ∧ Fr h₀ L h' m' ∧ News h₀ L h' (nx ++ own) ∧ NoIt nx ∧ J m' nx
def MyTurn (h₀ : Heap) (L : Addr) (J : (Str → Option Value) → List (Addr × Obj) → Prop) (own : List (Addr × Obj)) (s₁ : Shared) (Q : Flow → Shared → Prop) (f : Flow) (s₂ : Shared) : Prop :=
  match f with
  | .ret v => Q (.ret v) s₂
  | .brk => Q .next s₂
  | _ => MyTurnEnd h₀ L J own s₁ s₂
theorem MyTurnEnd.intro {h₀ h' : Heap} {L : Addr} {J : (Str → Option Value) → List (Addr × Obj) → Prop} {own : List (Addr × Obj)} {s₁ : Shared} {tk : Nat} {m' : Str → Option Value} {nx news' : List (Addr × Obj)}
    (F : Fr h₀ L h' m') (N : News h₀ L h' news') (hs : ∀ p ∈ nx ++ own, p ∈ news') (hn : NoIt nx) (hj : J m' nx) : MyTurnEnd h₀ L J own s₁ { s₁ with heap := h', toks := tk } :=
  ⟨h', tk, m', nx, rfl, F, fun p hp => N p (hs p hp), hn, hj⟩

section
variable {prog : Program} {w : World} {A : Around} {s : Shared} {env : Env} {h₀ : Heap}

theorem loopW {E : Value → Shared → Prop} {Q : Flow → Shared → Prop} {target : Expr} {body : List Stmt} {I : Addr} {fp wr : List Addr} {n : Nat} {P : Nat → Value → Prop} {St : Nat → Heap → Prop} {m : Str → Option Value}
    {news keep : List (Addr × Obj)} (W : Walks prog w A I fp wr n P St)
    (hgo : ∀ v i (s : Shared) (Q : Unit → Shared → Prop) (E : Value → Shared → Prop), St i s.heap → Q () s → wpAny (model prog w) A (letOwnedTupleGo target (.ref I) v) Q E s)
    (hLf : env.locals ∉ fp) (hwr : ∀ b ∈ wr, h₀.get? b = none) (hnw : ∀ p ∈ news, p.1 ∉ wr)
    (hcls : ∀ i h, St i h → ∀ b ∈ wr, ∃ o, h.get? b = some o ∧ itc o = true)
    (hfp : ∀ b ∈ fp, h₀.get? b = none → b ∈ wr ∨ b ∈ keep.map (·.1))
    (hst : St 0 s.heap) (F : Fr h₀ env.locals s.heap m) (N : News h₀ env.locals s.heap news)
    (J : Nat → (Str → Option Value) → List (Addr × Obj) → Prop) (hkeep : ∀ i m nx, J i m nx → ∀ p ∈ keep, p ∈ nx) (h0 : J 0 m news)
    (turn : ∀ i v m₁ news₁ h tk own, i < n → P i v → J i m₁ news₁ → OwnOff own (news₁.map (·.1)) → Fr h₀ env.locals h m₁ → News h₀ env.locals h (news₁ ++ own) →
      wpAny (model prog w) A (assign target env v) (fun _ s₂ => wpAny (model prog w) A (execs body env) (MyTurn h₀ env.locals (J (i + 1)) own { s with heap := h, toks := tk } Q) (fun _ _ => False) s₂) (fun _ _ => False) { s with heap := h, toks := tk })
    (done : ∀ m₁ news₁ h tk, J n m₁ news₁ → Fr h₀ env.locals h m₁ → News h₀ env.locals h news₁ → Q .next { s with heap := h, toks := tk }) :
    codeAny (model prog w) A (.forLoop target (.ref I) body [] env) (fun r s' => match r with | .ok f => Q f s' | .error e => cameBackBy (model prog w) A env E e s') s := by
  have hLw : env.locals ∉ wr := fun h => hLf (W.sub _ h)
  have old : ∀ b o, h₀.get? b = some o → b ∉ wr := fun b o e hb => by rw [hwr b hb] at e; cases e
  refine codeAny_forLoop_any
    (fun k s' => ∃ h' tk m' news' i, s' = { s with heap := h', toks := tk } ∧ St i h' ∧ Fr h₀ env.locals h' m' ∧ News h₀ env.locals h' news' ∧ (∀ p ∈ news', p.1 ∉ wr) ∧ J i m' news' ∧ i ≤ n ∧ k = n + 1 - i) ?_ (n + 1)
    ⟨s.heap, s.toks, m, news, 0, rfl, hst, F, N, hnw, h0, Nat.zero_le _, rfl⟩
  rintro k s' ⟨h', tk, m', news', i, rfl, hst', F', N', hnw', hJ, hi, rfl⟩
  have next : ∀ h₁ : Heap, (∀ b o, b ∉ wr → h'.get? b = some o → h₁.get? b = some o) → Fr h₀ env.locals h₁ m' ∧ News h₀ env.locals h₁ news' := fun h₁ hk₁ =>
    ⟨⟨F'.ns.at' fun o e => hk₁ _ o hLw e, fun b o e => hk₁ b o (old b o e) (F'.keep b o e), F'.above⟩, fun p hp => ⟨hk₁ _ _ (hnw' p hp) (N' p hp).1, (N' p hp).2⟩⟩
  by_cases hlt : i < n
  · refine W.item i _ _ _ hlt hst' fun v h₁ tk₁ hP hst₁ hk₁ => ?_
    obtain ⟨F₁, N₁⟩ := next h₁ hk₁
    refine hgo v (i + 1) _ _ _ hst₁ ?_
    let own := (ownOf h₀ fp h₁).filter fun p => decide (p.1 ∉ keep.map (·.1))
    have Nown : News h₀ env.locals h₁ own := fun p hp => (news_ownOf hLf) p (List.mem_filter.mp hp).1
    have hoff : OwnOff own (news'.map (·.1)) := by
      intro p hp b hb e
      obtain ⟨hp1, hp2⟩ := List.mem_filter.mp hp
      obtain ⟨q, hq, rfl⟩ := List.mem_map.mp hb
      rcases hfp p.1 (ownOf_sub p hp1) (Nown p hp).2.2 with h1 | h1
      · exact hnw' q hq (e ▸ h1)
      · exact (of_decide_eq_true hp2) h1
    refine wpAny_mono (turn i v m' news' h₁ tk₁ own hlt hP hJ hoff F₁ (fun p hp => (List.mem_append.mp hp).elim (N₁ p) (Nown p))) (fun _ s₂ h₂ => ?_) fun _ _ x => x.elim
    refine wpAny_mono h₂ (fun f s₃ h₃ => ?_) fun _ _ x => x.elim
    have fin : MyTurnEnd h₀ env.locals (J (i + 1)) own { s with heap := h₁, toks := tk₁ } s₃ → ∃ m, m < n + 1 - i ∧ ∃ h' tk m' news' i, s₃ = { s with heap := h', toks := tk } ∧ St i h' ∧ Fr h₀ env.locals h' m' ∧ News h₀ env.locals h' news' ∧ (∀ p ∈ news', p.1 ∉ wr) ∧ J i m' news' ∧ i ≤ n ∧ m = n + 1 - i := by
      rintro ⟨h₃', tk₃, m₂, nx, rfl, F₃, N₃, hni, hJ₃⟩
      have kept : ∀ b ∈ fp, ∀ o, h₁.get? b = some o → h₃'.get? b = some o := by
        intro b hb o e
        cases hn : h₀.get? b with
        | some o₀ =>
          have : o₀ = o := by have := F₁.keep b o₀ hn; rw [e] at this; exact (Option.some.inj this).symm
          exact this ▸ F₃.keep b o₀ hn
        | none =>
          by_cases hkb : b ∈ keep.map (·.1)
          · obtain ⟨q, hq, rfl⟩ := List.mem_map.mp hkb
            have q1 := (N₁ q (hkeep _ _ _ hJ q hq)).1
            have q2 := (N₃ q (List.mem_append_left _ (hkeep _ _ _ hJ₃ q hq))).1
            rw [e] at q1
            rw [Option.some.inj q1]; exact q2
          · exact (N₃ (b, o) (List.mem_append_right _ (List.mem_filter.mpr ⟨mem_ownOf hb hn e, decide_eq_true hkb⟩))).1
      have hst₃ := W.frame _ _ _ hst₁ kept
      refine ⟨n + 1 - (i + 1), by omega, h₃', tk₃, m₂, nx, i + 1, rfl, hst₃, F₃, fun p hp => N₃ p (List.mem_append_left _ hp), fun p hp hw => ?_, hJ₃, hlt, rfl⟩
      obtain ⟨o, ho, hc⟩ := hcls _ _ hst₃ p.1 hw
      have := (N₃ p (List.mem_append_left _ hp)).1
      rw [ho] at this
      rw [Option.some.inj this, hni p hp] at hc
      cases hc
    cases f with
    | ret v => exact h₃
    | brk => exact h₃
    | cont => exact fin h₃
    | next => exact fin h₃
  · have hin : i = n := by omega
    subst hin
    refine W.done _ _ _ hst' fun h₁ tk₁ hk₁ => wpAny_execs_nil ?_
    obtain ⟨F₁, N₁⟩ := next h₁ hk₁
    exact done m' news' h₁ tk₁ hJ F₁ N₁
end
section
variable {prog : Program} {w : World} {A : Around} {s : Shared} {env : Env} {h₀ : Heap}
theorem go_list {target : Expr} {I l : Addr} {items : Array Value} : ∀ (v : Value) (i : Nat) (s : Shared) (Q : Unit → Shared → Prop) (E : Value → Shared → Prop), (s.heap.IsListIter I l i ∧ s.heap.IsList l items) → Q () s → wpAny (model prog w) A (letOwnedTupleGo target (.ref I) v) Q E s := by
  intro v i s Q E hst hq
  obtain ⟨⟨o, ho, hc, hd⟩, _⟩ := hst
  unfold letOwnedTupleGo
  split
  · cases v <;> first | exact wpAny_pure hq | skip
    refine wpAny_bind (wpAny_load ho ?_)
    rw [hc, hd]
    show wpAny _ A (if (["enumerate", "zip", "dict_itemiterator", "dict_reverseitemiterator", "odict_iterator", "itertools.zip_longest", "itertools.pairwise"].contains "list_iterator" && _) = true then _ else _) Q E s
    rw [if_neg (fun hq => absurd (Bool.and_eq_true_iff.mp hq).1 (by decide))]
    exact wpAny_pure hq
  · cases v <;> first | exact wpAny_pure hq | skip
    refine wpAny_bind (wpAny_load ho ?_)
    rw [hc, hd]
    show wpAny _ A (if (["enumerate", "zip", "dict_itemiterator", "dict_reverseitemiterator", "odict_iterator", "itertools.zip_longest", "itertools.pairwise"].contains "list_iterator" && _) = true then _ else _) Q E s
    rw [if_neg (fun hq => absurd (Bool.and_eq_true_iff.mp hq).1 (by decide))]
    exact wpAny_pure hq
  · exact wpAny_pure hq

theorem loop_list {E : Value → Shared → Prop} {Q : Flow → Shared → Prop} {target : Expr} {body : List Stmt} {l : Addr} {ol : Obj} {items : List Value} {k : Nat} {m : Str → Option Value} {news keep : List (Addr × Obj)}
    (hh : A.handled = none) (F : Fr h₀ env.locals s.heap m) (N : News h₀ env.locals s.heap news) (hget : s.heap.get? l = some ol) (hol : ol.cls = .type "list" ∧ ol.data = .seq items.toArray k)
    (hsrc : h₀.get? l = some ol ∨ keep = [(l, ol)]) (hne : l ≠ env.locals)
    (J : Nat → (Str → Option Value) → List (Addr × Obj) → Prop) (hkeep : ∀ i m nx, J i m nx → ∀ p ∈ keep, p ∈ nx) (h0 : J 0 m news)
    (turn : ∀ i v m₁ news₁ h tk own, items[i]? = some v → J i m₁ news₁ → OwnOff own (news₁.map (·.1)) → Fr h₀ env.locals h m₁ → News h₀ env.locals h (news₁ ++ own) →
      wpAny (model prog w) A (assign target env v) (fun _ s₂ => wpAny (model prog w) A (execs body env) (MyTurn h₀ env.locals (J (i + 1)) own { s with heap := h, toks := tk } Q) (fun _ _ => False) s₂) (fun _ _ => False) { s with heap := h, toks := tk })
    (done : ∀ m₁ news₁ h tk, J items.length m₁ news₁ → Fr h₀ env.locals h m₁ → News h₀ env.locals h news₁ → Q .next { s with heap := h, toks := tk }) :
    wpAny (model prog w) A (pyIter (.ref l)) (fun it s₂ => codeAny (model prog w) A (.forLoop target it body [] env) (fun r s' => match r with | .ok f => Q f s' | .error e => cameBackBy (model prog w) A env E e s') s₂) E s := by
  have hls : s.heap.IsList l items.toArray := ⟨ol, hget, hol.1, k, hol.2⟩
  have hlI : l ≠ s.heap.objs.size := Nat.ne_of_lt (Heap.lt_size hget)
  refine wpAny_pyIter_list hls ?_
  have W := Walks.list (prog := prog) (w := w) hh s.heap.objs.size l hlI items.toArray
  have hn : items.toArray.size = items.length := by simp
  rw [hn] at W
  refine loopW (s := { s with heap := _ }) (keep := keep) W go_list ?_ ?_ ?_ ?_ ?_ ⟨⟨_, Heap.get?_push_size _ rfl, rfl, rfl⟩, hls.at fun o e => Heap.get?_push_of_some _ e⟩ (F.push _) (fun p hp => ⟨Heap.get?_push_of_some _ (N p hp).1, (N p hp).2⟩) J hkeep h0 ?_ ?_
  · intro hm
    rcases List.mem_cons.mp hm with e | hm
    · exact absurd F.ns.lt (e ▸ Nat.lt_irrefl _)
    · exact hne (List.mem_singleton.mp hm).symm
  · intro b hb
    rw [List.mem_singleton.mp hb]
    exact next_is_new F
  · intro p hp hI
    exact absurd (Heap.lt_size (N p hp).1) ((List.mem_singleton.mp hI) ▸ Nat.lt_irrefl _)
  · intro i h hst b hb
    rw [List.mem_singleton.mp hb]
    obtain ⟨⟨o, ho, hc, hd⟩, _⟩ := hst
    exact ⟨o, ho, by unfold itc; rw [hc, hd]; rfl⟩
  · intro b hb hn
    rcases List.mem_cons.mp hb with e | hm
    · exact .inl (by rw [e]; exact List.mem_singleton.mpr rfl)
    · have e := List.mem_singleton.mp hm
      subst e
      rcases hsrc with h1 | h1
      · rw [h1] at hn; cases hn
      · rw [h1]; exact .inr (List.mem_singleton.mpr rfl)
  · intro i v m₁ news₁ h tk own hi hP hJ hoff F₁ N₁
    exact turn i v m₁ news₁ h tk own (by simpa using hP) hJ hoff F₁ N₁
  · exact done

theorem loop_tup {E : Value → Shared → Prop} {Q : Flow → Shared → Prop} {x : Str} {px : Pos} {body : List Stmt} {l : Addr} {ol : Obj} {items : List Value} {k : Nat} {m : Str → Option Value} {news keep : List (Addr × Obj)}
    (hh : A.handled = none) (F : Fr h₀ env.locals s.heap m) (N : News h₀ env.locals s.heap news) (hget : s.heap.get? l = some ol) (hol : ol.cls = .type "tuple" ∧ ol.data = .seq items.toArray k)
    (hsrc : h₀.get? l = some ol ∨ keep = [(l, ol)]) (hne : l ≠ env.locals)
    (J : Nat → (Str → Option Value) → List (Addr × Obj) → Prop) (hkeep : ∀ i m nx, J i m nx → ∀ p ∈ keep, p ∈ nx) (h0 : J 0 m news)
    (turn : ∀ i v m₁ news₁ h tk own, items[i]? = some v → J i m₁ news₁ → OwnOff own (news₁.map (·.1)) → Fr h₀ env.locals h m₁ → News h₀ env.locals h (news₁ ++ own) →
      wpAny (model prog w) A (assign (.Name x px) env v) (fun _ s₂ => wpAny (model prog w) A (execs body env) (MyTurn h₀ env.locals (J (i + 1)) own { s with heap := h, toks := tk } Q) (fun _ _ => False) s₂) (fun _ _ => False) { s with heap := h, toks := tk })
    (done : ∀ m₁ news₁ h tk, J items.length m₁ news₁ → Fr h₀ env.locals h m₁ → News h₀ env.locals h news₁ → Q .next { s with heap := h, toks := tk }) :
    wpAny (model prog w) A (pyIter (.ref l)) (fun it s₂ => codeAny (model prog w) A (.forLoop (.Name x px) it body [] env) (fun r s' => match r with | .ok f => Q f s' | .error e => cameBackBy (model prog w) A env E e s') s₂) E s := by
  have hls : s.heap.IsTuple l items.toArray := ⟨ol, hget, hol.1, k, hol.2⟩
  have hlI : l ≠ s.heap.objs.size := Nat.ne_of_lt (Heap.lt_size hget)
  refine wpAny_pyIter_tuple hls ?_
  have W := Walks.tuple (prog := prog) (w := w) hh s.heap.objs.size l hlI items.toArray
  have hn : items.toArray.size = items.length := by simp
  rw [hn] at W
  refine loopW (s := { s with heap := _ }) (keep := keep) W (fun v i s Q E _ hq => wpAny_pure hq) ?_ ?_ ?_ ?_ ?_ ⟨⟨_, Heap.get?_push_size _ rfl, rfl, rfl⟩, hls.at fun o e => Heap.get?_push_of_some _ e⟩ (F.push _) (fun p hp => ⟨Heap.get?_push_of_some _ (N p hp).1, (N p hp).2⟩) J hkeep h0 ?_ ?_
  · intro hm
    rcases List.mem_cons.mp hm with e | hm
    · exact absurd F.ns.lt (e ▸ Nat.lt_irrefl _)
    · exact hne (List.mem_singleton.mp hm).symm
  · intro b hb
    rw [List.mem_singleton.mp hb]
    exact next_is_new F
  · intro p hp hI
    exact absurd (Heap.lt_size (N p hp).1) ((List.mem_singleton.mp hI) ▸ Nat.lt_irrefl _)
  · intro i h hst b hb
    rw [List.mem_singleton.mp hb]
    obtain ⟨⟨o, ho, hc, hd⟩, _⟩ := hst
    exact ⟨o, ho, by unfold itc; rw [hc, hd]; rfl⟩
  · intro b hb hn
    rcases List.mem_cons.mp hb with e | hm
    · exact .inl (by rw [e]; exact List.mem_singleton.mpr rfl)
    · have e := List.mem_singleton.mp hm
      subst e
      rcases hsrc with h1 | h1
      · rw [h1] at hn; cases hn
      · rw [h1]; exact .inr (List.mem_singleton.mpr rfl)
  · intro i v m₁ news₁ h tk own hi hP hJ hoff F₁ N₁
    exact turn i v m₁ news₁ h tk own (by simpa using hP) hJ hoff F₁ N₁
  · exact done
end
local macro_rules | `(tactic| walk_at "exec For Name Name cons nil") => `(tactic| (k_here; k_dflt (refine wpAny_For ?_)))
local macro_rules | `(tactic| walk_at "exec For Tuple Name cons nil") => `(tactic| (k_here; k_dflt (refine wpAny_For ?_)))
local macro_rules | `(tactic| walk_at "exec For Name Call cons nil") => `(tactic| (k_here; k_dflt (refine wpAny_For ?_)))
local macro_rules | `(tactic| walk_at "exec For Tuple Call cons nil") => `(tactic| (k_here; k_dflt (refine wpAny_For ?_)))

/-- values that are texts -/
inductive Txs : List Value → List (List Nat) → Prop
  | nil : Txs [] []
  | cons {x : List Nat} {t : Tok} {vs : List Value} {xs : List (List Nat)} : Txs vs xs → Txs (.str (tx x) t :: vs) (x :: xs)
theorem Txs.length {vs : List Value} {ps : List (List Nat)} (h : Txs vs ps) : vs.length = ps.length := by
  induction h with
  | nil => rfl
  | cons _ ih => simp [ih]
theorem Txs.get {vs : List Value} {ps : List (List Nat)} (h : Txs vs ps) : ∀ {i : Nat} {v : Value}, vs[i]? = some v → ∃ p t, v = .str (tx p) t ∧ ps[i]? = some p := by
  induction h with
  | nil => intro i v e; simp at e
  | cons _ ih =>
    intro i v e
    cases i with
    | zero => simp only [List.getElem?_cons_zero, Option.some.injEq] at e; exact ⟨_, _, e.symm, rfl⟩
    | succ i => simp only [List.getElem?_cons_succ] at e ⊢; exact ih e
theorem Txs.at {vs : List Value} {ps : List (List Nat)} (h : Txs vs ps) {i : Nat} {p : List Nat} (e : ps[i]? = some p) : ∃ t, vs[i]? = some (.str (tx p) t) := by
  have hl := h.length
  have hi : i < vs.length := by rw [hl]; exact (List.getElem?_eq_some_iff.mp e).1
  obtain ⟨q, t, e1, e2⟩ := h.get (List.getElem?_eq_getElem hi)
  rw [e] at e2
  cases e2
  exact ⟨t, by rw [List.getElem?_eq_getElem hi, e1]⟩
theorem Txs.app {vs us : List Value} {ps qs : List (List Nat)} (h : Txs vs ps) (k : Txs us qs) : Txs (vs ++ us) (ps ++ qs) := by
  induction h with
  | nil => exact k
  | cons _ ih => exact .cons ih
theorem Txs.drop {vs : List Value} {ps : List (List Nat)} (h : Txs vs ps) (n : Nat) : Txs (vs.drop n) (ps.drop n) := by
  induction h generalizing n with
  | nil => simp; exact .nil
  | cons hh ih => cases n with
    | zero => exact .cons hh
    | succ n => simpa using ih n
theorem Txs.take {vs : List Value} {ps : List (List Nat)} (h : Txs vs ps) (n : Nat) : Txs (vs.take n) (ps.take n) := by
  induction h generalizing n with
  | nil => simp; exact .nil
  | cons hh ih => cases n with
    | zero => exact .nil
    | succ n => simpa using .cons (ih n)
theorem Txs.snoc {vs : List Value} {ps : List (List Nat)} (h : Txs vs ps) (p : List Nat) (t : Tok) : Txs (vs ++ [.str (tx p) t]) (ps ++ [p]) := h.app (.cons .nil)
theorem Txs.rep {p : List Nat} {t : Tok} : ∀ n : Nat, Txs (List.replicate n (.str (tx p) t)) (List.replicate n p)
  | 0 => .nil
  | n + 1 => .cons (Txs.rep n)
theorem withMap {h₀ h : Heap} {L : Addr} {m : Str → Option Value} (F : Fr h₀ L h m) {P : Prop} (k : ∀ m₀, m₀ = m → Fr h₀ L h m₀ → P) : P := k m rfl F
theorem withNews {h₀ h : Heap} {L : Addr} {news : List (Addr × Obj)} (N : News h₀ L h news) {P : Prop} (k : ∀ n₀, n₀ = news → News h₀ L h n₀ → P) : P := k news rfl N
/-- a part of a path: not empty, without a slash -/
def Part (p : List Nat) : Prop := p ≠ [] ∧ 47 ∉ p
/-- but for these names the maps are one -/
def Keeps (xs : List Str) (m m₀ : Str → Option Value) : Prop := ∀ z, z ∉ xs → m z = m₀ z
theorem Keeps.refl {xs : List Str} {m : Str → Option Value} : Keeps xs m m := fun _ _ => rfl
theorem keeps1 {m m₀ : Str → Option Value} {x : Str} (h : ∀ z, z ≠ x → m z = m₀ z) : Keeps [x] m m₀ := fun z hz => h z fun e => hz (by rw [e]; simp)
theorem keeps2 {m m₀ : Str → Option Value} {x y : Str} (h : ∀ z, z ≠ x → z ≠ y → m z = m₀ z) : Keeps [x, y] m m₀ := fun z hz => h z (fun e => hz (by rw [e]; simp)) (fun e => hz (by rw [e]; simp))
theorem keeps3 {m m₀ : Str → Option Value} {x y u : Str} (h : ∀ z, z ≠ x → z ≠ y → z ≠ u → m z = m₀ z) : Keeps [x, y, u] m m₀ := fun z hz => h z (fun e => hz (by rw [e]; simp)) (fun e => hz (by rw [e]; simp)) (fun e => hz (by rw [e]; simp))
theorem keeps4 {m m₀ : Str → Option Value} {x y u v : Str} (h : ∀ z, z ≠ x → z ≠ y → z ≠ u → z ≠ v → m z = m₀ z) : Keeps [x, y, u, v] m m₀ := fun z hz => h z (fun e => hz (by rw [e]; simp)) (fun e => hz (by rw [e]; simp)) (fun e => hz (by rw [e]; simp)) (fun e => hz (by rw [e]; simp))
theorem mf1u {m m₀ : Str → Option Value} {y : Str} (hk : Keeps [y] m m₀) : ∃ u, m = fun z => if z = y then u else m₀ z :=
  ⟨m y, funext fun z => by
    by_cases h : z = y
    · simp [h]
    · simp only [if_neg h]; exact hk z (by simpa using h)⟩
theorem mf2u {m m₀ : Str → Option Value} {x y : Str} (hk : Keeps [x, y] m m₀) : ∃ u v, m = fun z => if z = x then u else if z = y then v else m₀ z :=
  ⟨m x, m y, funext fun z => by
    by_cases h : z = x
    · simp [h]
    · by_cases h2 : z = y
      · rw [if_neg h, if_pos h2, h2]
      · rw [if_neg h, if_neg h2]; exact hk z (by simp [h, h2])⟩
theorem mf1k1u {m m₀ : Str → Option Value} {x y : Str} {v : Option Value} (hx : m x = v) (hk : Keeps [x, y] m m₀) : ∃ u, m = fun z => if z = x then v else if z = y then u else m₀ z := by
  obtain ⟨a, b, e⟩ := mf2u hk
  refine ⟨b, ?_⟩
  have : a = v := by rw [← hx, e]; simp
  rw [← this]; exact e
theorem mf1k2u {m m₀ : Str → Option Value} {x y y' : Str} {v : Option Value} (hx : m x = v) (hk : Keeps [x, y, y'] m m₀) : ∃ u u', m = fun z => if z = x then v else if z = y then u else if z = y' then u' else m₀ z :=
  ⟨m y, m y', funext fun z => by
    by_cases h : z = x
    · rw [h]; simp [hx]
    · by_cases h2 : z = y
      · rw [if_neg h, if_pos h2, h2]
      · by_cases h3 : z = y'
        · rw [if_neg h, if_neg h2, if_pos h3, h3]
        · rw [if_neg h, if_neg h2, if_neg h3]; exact hk z (by simp [h, h2, h3])⟩
theorem mf2k1u {m m₀ : Str → Option Value} {x x' y : Str} {v v' : Option Value} (hx : m x = v) (hx' : m x' = v') (hk : Keeps [x, x', y] m m₀) : ∃ u, m = fun z => if z = x then v else if z = x' then v' else if z = y then u else m₀ z := by
  obtain ⟨u, u', e⟩ := mf1k2u hx hk
  by_cases h : x' = x
  · subst h
    refine ⟨u', ?_⟩
    rw [e]; funext z
    by_cases h1 : z = x'
    · simp [h1]
    · simp [h1]
  · refine ⟨u', ?_⟩
    have : u = v' := by rw [← hx', e]; simp [h]
    rw [← this]; exact e
theorem truthy_tx {prog : Program} {w : World} {A : Around} {E : Value → Shared → Prop} {s : Shared} {Q : Bool → Shared → Prop} {l : List Nat} {t : Tok} (hz : (tx l).length ≤ 1000000)
    (h : ∀ tk, Q (!l.isEmpty) { s with toks := tk }) : wpAny (model prog w) A (truthy (.str (tx l) t)) Q E s := by
  refine P.truthy_str (by omega) ?_
  have e : (((tx l).length : Int) != 0) = !l.isEmpty := by
    rw [tx_len]
    cases l with
    | nil => rfl
    | cons a r =>
      simp only [List.length_cons, List.isEmpty_cons, Bool.not_false, bne_iff_ne]
      omega
  rw [e]; exact h _
local macro_rules | `(tactic| walk_at "truthy str") => `(tactic| (k_here; (with_reducible show wpAny _ _ (truthy (Value.str (tx _) _)) _ _ _); refine truthy_tx (by first | assumption | omega | walk_at "my:len") ?_; intro _))
local macro_rules | `(tactic| walk_at "my:len") => `(tactic| (simp only [tx_len, List.length_cons, List.length_append, List.length_nil] at *; omega))
theorem txs_of_values : ∀ {l : List (Str × Tok)} {ps : List (List Nat)}, l.map (·.1) = ps.map tx → Txs (strValues l) ps
  | [], [], _ => .nil
  | [], _ :: _, e => by simp at e
  | _ :: _, [], e => by simp at e
  | (x, t) :: r, p :: ps, e => by
    simp only [List.map_cons, List.cons.injEq] at e
    have := txs_of_values (l := r) (ps := ps) e.2
    obtain ⟨e1, _⟩ := e
    subst e1
    exact .cons this
theorem values_of_txs {vs : List Value} {ps : List (List Nat)} (h : Txs vs ps) : ∃ l : List (Str × Tok), vs = strValues l ∧ l.map (·.1) = ps.map tx := by
  induction h with
  | nil => exact ⟨[], rfl, rfl⟩
  | @cons x t vs xs _ ih =>
    obtain ⟨l, e1, e2⟩ := ih
    exact ⟨(tx x, t) :: l, by rw [e1]; rfl, by simp [e2]⟩
section
variable {prog : Program} {w : World} {A : Around} {E : Value → Shared → Prop} {s : Shared} {h₀ : Heap} {L : Addr} {m : Str → Option Value} {news : List (Addr × Obj)} {Q : Value → Shared → Prop}
theorem split_ok {x : List Nat} {ps : List (List Nat)} {t u : Tok} {y : Str} (F : Fr h₀ L s.heap m) (N : News h₀ L s.heap news) (hy : y = tx [47]) (hx : x = jn 47 ps) (hne : ps ≠ []) (hf : ∀ p ∈ ps, 47 ∉ p) (hz : (tx x).length ≤ 100000)
    (h : ∀ D vs h' k, Txs vs ps → vs.length = ps.length → Fr h₀ L h' m → News h₀ L h' ((D, { cls := .type "list", data := .seq vs.toArray }) :: news) → (∀ p ∈ news, p.1 < D) → Q (.ref D) { s with heap := h', toks := k }) :
    wpAny (model prog w) A (call (.builtin "str.split") [.str (tx x) t, .str y u]) Q E s := by
  subst hy
  refine splitN1 F N rfl (fun l h' k e F' N' => ?_) (by rw [sizeLine_eq]; omega)
  rw [hx, split_is hne hf] at e
  exact h _ _ h' k (txs_of_values e) (txs_of_values e).length F' N' fun p hp => Heap.lt_size (N p hp).1
theorem strjoin_ok {ps : List (List Nat)} {vs : List Value} {n : Nat} {t : Tok} {y : Str} {D : Addr} (hD : s.heap.get? D = some { cls := .type "list", data := .seq vs.toArray n }) (hy : y = tx [c]) (hv : Txs vs ps) (hz : (tx (jn c ps)).length ≤ 100000) (hl : ps.length ≤ 100000)
    (h : ∀ t' k, Q (.str (tx (jn c ps)) t') { s with toks := k }) :
    wpAny (model prog w) A (call (.builtin "str.join") [.str y t, .ref D]) Q E s := by
  subst hy
  obtain ⟨l, e1, e2⟩ := values_of_txs hv
  subst e1
  refine SC.join (texts := ps.map tx) ⟨_, hD, rfl, n, rfl⟩ e2 ?_ ?_
  · unfold JoinOk
    rw [Bool.not_eq_true']
    unfold Builtin.Str.tooLong
    rw [decide_eq_false_iff_not]
    have h2 := jn_sum (c := c) (ps := ps)
    have h3 : (ps.map (Str.length ∘ tx)) = ps.map List.length := List.map_congr_left fun x _ => tx_len x
    have h5 : (tx [c]).length = 1 := rfl
    have hs := sizeLine_eq
    rw [tx_len] at hz
    show ¬ (sizeLine < (ps.map tx).toArray.foldl (fun a p => a + p.length + (tx [c]).length) 0)
    rw [StrLaws.joinTotal, List.length_map, List.map_map]
    show ¬ (sizeLine < (ps.map (Str.length ∘ tx)).sum + ps.length * (tx [c]).length)
    rw [h3, h5]
    omega
  · intro t' k
    rw [txtjoin_is]
    exact h t' k
end
theorem newsTwo {h₀ h : Heap} {L b d : Addr} {o1 o2 : Obj} {r : List (Addr × Obj)} (N : News h₀ L h ((b, o1) :: (d, o2) :: r)) {P : Prop} (k : ∀ B, B = b → News h₀ L h [(B, o1), (d, o2)] → P) : P :=
  k b rfl fun p hp => N p (by
    rcases List.mem_cons.mp hp with rfl | hp
    · exact .head _
    · rw [List.mem_singleton.mp hp]; exact .tail _ (.head _))
theorem newsOne {h₀ h : Heap} {L b : Addr} {o1 : Obj} {r : List (Addr × Obj)} (N : News h₀ L h ((b, o1) :: r)) {P : Prop} (k : ∀ B, B = b → News h₀ L h [(B, o1)] → P) : P :=
  k b rfl fun p hp => N p (by rw [List.mem_singleton.mp hp]; exact .head _)
theorem Txs.unsnoc {q : List Nat} : ∀ {a : List (List Nat)} {us : List Value}, Txs us (a ++ [q]) → ∃ us' t, us = us' ++ [.str (tx q) t] ∧ Txs us' a
  | [], _, .cons .nil => ⟨[], _, rfl, .nil⟩
  | _ :: a, _, .cons h => by
    obtain ⟨us', t, e, h'⟩ := Txs.unsnoc (a := a) h
    exact ⟨_ :: us', t, by rw [e]; rfl, .cons h'⟩
theorem frNe {h₀ h : Heap} {L x : Addr} {m : Str → Option Value} {o : Obj} (F : Fr h₀ L h m) (hx : h₀.get? x = some o) : x ≠ L := Nat.ne_of_lt (Nat.lt_of_lt_of_le (Heap.lt_size hx) F.above)

section
variable {prog : Program} {w : World} {A : Around} {E : Value → Shared → Prop} {s : Shared} {h₀ : Heap} {L : Addr} {m : Str → Option Value} {news news' : List (Addr × Obj)} {Q : Value → Shared → Prop} {D : Addr} {us : List Value} {n : Nat}
theorem my_append {x : Value} (F : Fr h₀ L s.heap m) (N : News h₀ L s.heap news) (U : Upd D (listOf us.toArray n) (listOf (us ++ [x]).toArray (n + 1)) news news') (hz : us.length ≤ 100000)
    (h : ∀ h', Fr h₀ L h' m → News h₀ L h' news' → Q .none { s with heap := h' }) : wpAny (model prog w) A (call (.builtin "list.append") [.ref D, x]) Q E s := by
  have e : (us ++ [x]).toArray = us.toArray.push x := by simp
  rw [e] at U
  exact append_K F N U h (by rw [List.size_toArray, sizeLine_eq]; omega)
theorem last_of (p : List Value) (y : Value) : kl_last (p ++ [y]) = some (p, y) := by
  induction p with
  | nil => rfl
  | cons a r ih => rw [List.cons_append, kl_last, ih]
theorem my_pop {y : Value} (F : Fr h₀ L s.heap m) (N : News h₀ L s.heap news) (U : Upd D (listOf (us ++ [y]).toArray n) (listOf us.toArray (n + 1)) news news') (hz : (us ++ [y]).length ≤ 100000)
    (h : ∀ h', Fr h₀ L h' m → News h₀ L h' news' → Q y { s with heap := h' }) : wpAny (model prog w) A (call (.builtin "list.pop") [.ref D]) Q E s :=
  kl_pop F N (last_of us y) U (by show (us ++ [y]).length ≤ sizeLine; rw [sizeLine_eq]; omega) h
theorem my_truthy {Q : Bool → Shared → Prop} (N : News h₀ L s.heap news) (hm : (D, listOf us.toArray n) ∈ news) (hz : us.length ≤ 100000) (h : ∀ k, Q (!us.isEmpty) { s with toks := k }) : wpAny (model prog w) A (truthy (.ref D)) Q E s :=
  wpAny_truthy_list ⟨_, (N _ hm).1, rfl, n, rfl⟩ (by rw [List.size_toArray]; omega) (by
    have e : (!us.toArray.isEmpty) = !us.isEmpty := by simp
    rw [e]; exact h _)
theorem my_last {value slice : Expr} {y : Value} {u : Tok} (N : News h₀ L s.heap news) (hm : (D, listOf (us ++ [y]).toArray n) ∈ news) (h : Q y s)
    (hs : subscripted slice false (.ref D) (.int (-1) u) = operate [.ref D, .int (-1) u] (getItem (.ref D) (.int (-1) u)) := by with_unfolding_all rfl) (hg : ∀ r, letTemporaryGo value (.ref D) r = pure () := by intro _; with_unfolding_all rfl) :
    wpAny (model prog w) A (subscriptTail value slice (.ref D) (.int (-1) u)) Q E s :=
  kim_back N hm rfl rfl (by decide) (by simp; omega) (by decide) (by
    have e : ((-1 : Int) + ((us ++ [y]).length : Int)).toNat = us.length := by simp only [List.length_append, List.length_cons, List.length_nil]; omega
    rw [e]; simp) h hs hg
end
local macro_rules | `(tactic| walk_at "call builtin:list.append") => `(tactic| (k_here; (with_reducible show wpAny _ _ (call (Value.builtin "list.append") [Value.ref _, _]) _ _ _); k_dflt (refine' my_append ?F ?N ?U ?z ?_; walk_at "my:FN"; (case U => k_upd); (case z => first | assumption | omega); k_whole); intro h' F' N'; (try k_sweep)))
local macro_rules | `(tactic| walk_at "call builtin:list.pop") => `(tactic| (k_here; (with_reducible show wpAny _ _ (call (Value.builtin "list.pop") [Value.ref _]) _ _ _); k_dflt (refine' my_pop ?F ?N ?U ?z ?_; walk_at "my:FN"; (case U => k_upd); (case z => first | assumption | omega); k_whole); intro h' F' N'; (try k_sweep)))
local macro_rules | `(tactic| walk_at "truthy ref") => `(tactic| (k_here; (with_reducible show wpAny _ _ (truthy (Value.ref _)) _ _ _); k_dflt (refine' my_truthy ?N ?m ?z ?_; (case N => k_asm); (case m => k_mem); (case z => first | assumption | omega); k_whole); intro _))
local macro_rules | `(tactic| walk_at "my:last") => `(tactic| (k_here; (with_reducible show wpAny _ _ (subscriptTail _ _ (Value.ref _) (Value.int _ _)) _ _ _); k_dflt (refine' my_last ?N ?m ?_; (case N => k_asm); (case m => k_mem); k_whole)))
local macro_rules | `(tactic| walk_at "subscriptTail") => `(tactic| walk_at "my:last")
local macro_rules | `(tactic| walk_at "subscriptTail Name UnaryOp ref int") => `(tactic| walk_at "my:last")

theorem fspath_ok {w : World} {A : Around} {E : Value → Shared → Prop} {s : Shared} {V : Program} {Lo : List Str} {mg mb : Str → Option Value} {Q : Value → Shared → Prop} {x : Str} {t : Tok}
  (X : (hd.heap_1 w.params).In s.heap) (T : TR V Lo mg mb s.heap) (hdp : A.depth + 5 < recursionLimit) (hu : A.units + 100 < cLine)
  (h : ∀ h' t', s.heap.StaysIn h' → Q (.str x t) { s with heap := h', toks := t' }) :
  wpAny (model Pg w) A (call (.ref 94) [.str x t]) Q E s := by
  w_on
  refine' enter (K := hd.heap_1 w.params) (args := ⟨[.str x t], []⟩) (binds := [(Str.ofString "path", .str x t)]) X T ?k1 ?k2 ?k3 ?k4 ?k5 ?_ ?k6 ?k7 ?k8 ?k9
  walk_at "my:cases"
  intro L' h₁ F N
  dsimp only [List.reverse, List.reverseAux] at F
  k_fold
  k_steps
  exact h _ _ (Fr.keep (by assumption))
local macro_rules | `(tactic| walk_at "call ref") => `(tactic| (k_here; (with_reducible show wpAny _ _ (call (Value.ref 94) _ _) _ _ _); refine' fspath_ok ?sX ?sT ?sd ?su ?_; walk_at "my:site"; intro _ _ _; walk_at "my:carry"))

theorem getsep_ok {w : World} {A : Around} {E : Value → Shared → Prop} {s : Shared} {V : Program} {Lo : List Str} {mg mb : Str → Option Value} {Q : Value → Shared → Prop} {x : Str} {t : Tok}
  (X : (hd.heap_1 w.params).In s.heap) (T : TR V Lo mg mb s.heap) (hdp : A.depth + 5 < recursionLimit) (hu : A.units + 100 < cLine)
  (h : ∀ h' t' u, s.heap.StaysIn h' → Q (.str (tx [47]) u) { s with heap := h', toks := t' }) :
  wpAny (model Pg w) A (call (.ref 115) [.str x t]) Q E s := by
  w_on
  refine' enter (K := hd.heap_1 w.params) (args := ⟨[.str x t], []⟩) (binds := [(Str.ofString "path", .str x t)]) X T ?k1 ?k2 ?k3 ?k4 ?k5 ?_ ?k6 ?k7 ?k8 ?k9
  walk_at "my:cases"
  intro L' h₁ F N
  dsimp only [List.reverse, List.reverseAux] at F
  k_fold
  k_steps
  all_goals (rw [← lit_slash] at h; exact h _ _ _ (Fr.keep (by assumption)))
local macro_rules | `(tactic| walk_at "call ref") => `(tactic| (k_here; (with_reducible show wpAny _ _ (call (Value.ref 115) _ _) _ _ _); refine' getsep_ok ?sX ?sT ?sd ?su ?_; walk_at "my:site"; intro _ _ _ _; walk_at "my:carry"))

theorem splitroot_ok {w : World} {A : Around} {E : Value → Shared → Prop} {s : Shared} {V : Program} {Lo : List Str} {mg mb : Str → Option Value} {Q : Value → Shared → Prop} {l : List Nat} {t : Tok}
  (X : (hd.heap_1 w.params).In s.heap) (T : TR V Lo mg mb s.heap) (hdp : A.depth + 10 < recursionLimit) (hu : A.units + 150 < cLine)
  (hr : l.head? ≠ some 47) (hsz : (tx (47 :: l)).length ≤ 1000)
  (h : ∀ h' t' a t1 t2 t3, s.heap.StaysIn h' → s.heap.get? a = none → h'.get? a = some { cls := .type "tuple", data := .seq [.str (tx []) t1, .str (tx [47]) t2, .str (tx l) t3].toArray } → Q (.ref a) { s with heap := h', toks := t' }) :
  wpAny (model Pg w) A (call (.ref 129) [.str (tx (47 :: l)) t]) Q E s := by
  w_on
  have hc1 : ([47] != [47]) = false := by decide
  have hc2 : (List.take 1 l != [47]) = true := by
    cases l with
    | nil => rfl
    | cons a r => simp only [List.head?_cons, ne_eq, Option.some.injEq] at hr; simp [hr]
  refine' enter (K := hd.heap_1 w.params) (args := ⟨[.str (tx (47 :: l)) t], []⟩) (binds := [(Str.ofString "p", .str (tx (47 :: l)) t)]) X T ?k1 ?k2 ?k3 ?k4 ?k5 ?_ ?k6 ?k7 ?k8 ?k9
  walk_at "my:cases"
  intro L' h₁ F N
  dsimp only [List.reverse, List.reverseAux] at F
  k_fold
  k_steps
  (with_reducible rename News _ _ _ _ => N')
  simp only [sl_1_, lit_slash, lit_empty, List.drop] at *
  exact h _ _ _ _ _ _ (Fr.keep (by assumption)) (N' _ (.head _)).2.2 (N' _ (.head _)).1
theorem newsMore {h₀ h h' : Heap} {L : Addr} {m : Str → Option Value} {news : List (Addr × Obj)} {a : Addr} {o : Obj} (F : Fr h₀ L h m) (N : News h₀ L h news) (k : h.StaysIn h') (hn : h.get? a = none) (ha : h'.get? a = some o) : News h₀ L h' ((a, o) :: news) := fun p hp => by
  rcases List.mem_cons.mp hp with rfl | hp
  · refine ⟨ha, fun e => ?_, ?_⟩
    · obtain ⟨oL, _, _, hL, _⟩ := F.ns
      have e : a = L := e
      rw [e, hL] at hn; cases hn
    · cases q : h₀.get? a with
      | none => rfl
      | some x => rw [F.keep _ _ q] at hn; cases hn
  · exact newsGo N k p hp
section
variable {prog : Program} {w : World} {A : Around} {E : Value → Shared → Prop} {s : Shared} {Q : Value → Shared → Prop} {ps : List Value} {kw : List (Str × Value)}
theorem held129 (h : Held (wpAny (model prog w) A (call (.ref 129) ps kw) Q E s)) : wpAny (model prog w) A (call (.ref 129) ps kw) Q E s := h
theorem held136 (h : Held (wpAny (model prog w) A (call (.ref 136) ps kw) Q E s)) : wpAny (model prog w) A (call (.ref 136) ps kw) Q E s := h
theorem held143 (h : Held (wpAny (model prog w) A (call (.ref 143) ps kw) Q E s)) : wpAny (model prog w) A (call (.ref 143) ps kw) Q E s := h
theorem held101 (h : Held (wpAny (model prog w) A (call (.ref 101) ps kw) Q E s)) : wpAny (model prog w) A (call (.ref 101) ps kw) Q E s := h
theorem held199 (h : Held (wpAny (model prog w) A (call (.ref 199) ps kw) Q E s)) : wpAny (model prog w) A (call (.ref 199) ps kw) Q E s := h
theorem held151 (h : Held (wpAny (model prog w) A (call (.ref 151) ps kw) Q E s)) : wpAny (model prog w) A (call (.ref 151) ps kw) Q E s := h
theorem held171 (h : Held (wpAny (model prog w) A (call (.ref 171) ps kw) Q E s)) : wpAny (model prog w) A (call (.ref 171) ps kw) Q E s := h
theorem held178 (h : Held (wpAny (model prog w) A (call (.ref 178) ps kw) Q E s)) : wpAny (model prog w) A (call (.ref 178) ps kw) Q E s := h
theorem held192 (h : Held (wpAny (model prog w) A (call (.ref 192) ps kw) Q E s)) : wpAny (model prog w) A (call (.ref 192) ps kw) Q E s := h
theorem held156 (h : Held (wpAny (model prog w) A (call (.ref 156) ps kw) Q E s)) : wpAny (model prog w) A (call (.ref 156) ps kw) Q E s := h
theorem held204 (h : Held (wpAny (model prog w) A (call (.ref 204) ps kw) Q E s)) : wpAny (model prog w) A (call (.ref 204) ps kw) Q E s := h
end
local macro_rules | `(tactic| walk_at "call ref") => `(tactic| (k_here; with_reducible (first | refine held129 ?_ | refine held136 ?_ | refine held143 ?_ | refine held101 ?_ | refine held199 ?_ | refine held151 ?_ | refine held171 ?_ | refine held178 ?_ | refine held192 ?_ | refine held156 ?_ | refine held204 ?_)))

theorem join_ok {w : World} {A : Around} {E : Value → Shared → Prop} {s : Shared} {V : Program} {Lo : List Str} {mg mb : Str → Option Value} {Q : Value → Shared → Prop} {row ps : List (List Nat)} {vs : List Value} {t : Tok}
  (X : (hd.heap_1 w.params).In s.heap) (T : TR V Lo mg mb s.heap) (hdp : A.depth + 10 < recursionLimit) (hu : A.units + 150 < cLine) (hh : A.handled = none)
  (hv : Txs vs ps) (hrow : ∀ p ∈ row, Part p) (hps : ∀ p ∈ ps, Part p) (hsz : (tx (47 :: jn 47 (row ++ ps))).length ≤ 1000)
  (h : ∀ h' t' u, s.heap.StaysIn h' → Q (.str (tx (47 :: jn 47 (row ++ ps))) u) { s with heap := h', toks := t' }) :
  wpAny (model Pg w) A (call (.ref 122) (.str (tx (47 :: jn 47 row)) t :: vs)) Q E s := by
  w_on
  have hlen : vs.length ≤ 1000 := by
    have h1 := hv.length
    have h2 := jn_len (c := 47) (ps := row ++ ps) (fun p hp => ((List.mem_append.mp hp).elim (hrow p) (hps p)).1)
    rw [tx_len] at hsz
    simp only [List.length_cons, List.length_append] at hsz h2
    omega
  refine' enterR (K := hd.heap_1 w.params) (args := ⟨.str (tx (47 :: jn 47 row)) t :: vs, []⟩) (vs := vs) (binds := fun D => [(Str.ofString "a", .str (tx (47 :: jn 47 row)) t), (Str.ofString "p", D)]) X T ?k1 ?k2 ?k3 ?k4 ?kG ?k5 ?_ ?k6 ?k7 ?k8 ?k9
  case k1 => k_is
  case k2 => k_is
  case k3 => k_room
  case k4 =>
    clear hv h hlen
    cases vs with
    | nil => exact rfl
    | cons v r => exact rfl
  case kG => rw [sizeLine_eq]; omega
  case k5 => exact fun _ => locs rfl
  case k6 => exact rfl
  case k7 => exact rfl
  case k8 => exact rfl
  case k9 => decide
  intro D L' h₁ tk F N
  dsimp only [List.reverse, List.reverseAux] at F
  k_fold
  k_steps
  (with_reducible rename Fr _ _ _ _ => kF)
  (with_reducible rename News _ _ _ _ => kN)
  refine withMap kF (fun m₀ hm₀ F0 => ?_)
  clear kF
  refine' loop_tup (keep := [(D, ({ cls := .type "tuple", data := .seq vs.toArray } : Obj))]) hh F0 kN (kN.get (.head _)) ⟨rfl, rfl⟩ (.inr rfl) (kN _ (.head _)).2.1
    (fun i m nx => (∃ t, m (Str.ofString "path") = some (.str (tx (47 :: jn 47 (row ++ ps.take i))) t)) ∧ Keeps [Str.ofString "path", Str.ofString "b"] m m₀ ∧ nx = [(D, ({ cls := .type "tuple", data := .seq vs.toArray } : Obj))]) ?hk ?h0 ?turn ?done
  case hk => rintro i m nx ⟨_, _, rfl⟩ p hp; exact hp
  case h0 => subst hm₀; exact ⟨⟨t, by simp⟩, Keeps.refl, rfl⟩
  case done =>
    rintro m₁ news₁ h₂ tk₂ ⟨⟨t₁, e1⟩, hk, rfl⟩ F1 N1
    have hl : vs.length = ps.length := hv.length
    rw [hl, List.take_length] at e1
    obtain ⟨u, rfl⟩ := mf1k1u e1 hk
    subst hm₀
    dsimp only
    k_steps
    exact h _ _ _ (Fr.keep (by assumption))
  case turn =>
    rintro i v m₁ news₁ h₂ tk₂ own hi ⟨⟨t₁, e1⟩, hk, rfl⟩ hoff F1 N1
    obtain ⟨p, u, rfl, hp⟩ := hv.get hi
    obtain ⟨u, rfl⟩ := mf1k1u e1 hk
    have hpp := hps p (List.mem_of_getElem? hp)
    subst hm₀
    clear F0 kN
    have hc1 : (p.head? == some 47) = false := by
      have := hpp.2
      cases p with
      | nil => rfl
      | cons a r => simp only [List.head?_cons, List.mem_cons, not_or] at *; simp; exact fun e => this.1 e.symm
    have hst : row ++ ps.take (i + 1) = (row ++ ps.take i) ++ [p] := by rw [List.take_add_one, hp]; simp
    have hpre : ∀ q ∈ row ++ ps.take i, Part q := fun q hq => (List.mem_append.mp hq).elim (hrow q) fun hq => hps q (List.mem_of_mem_take hq)
    have hsz2 : (tx (47 :: jn 47 (row ++ ps.take (i + 1)))).length ≤ 1000 := by
      have := jn_take_le (c := 47) (a := row ++ ps.take (i + 1)) (b := ps.drop (i + 1))
      rw [List.append_assoc, List.take_append_drop] at this
      simp only [tx_len, List.length_cons] at hsz ⊢
      omega
    by_cases hemp : row ++ ps.take i = []
    · have hnext : tx (47 :: jn 47 (row ++ ps.take (i + 1))) = tx [47] ++ tx p := by rw [hst, hemp, tx_app]; rfl
      have hz1 : (tx p).length ≤ 1000 := by rw [hnext, Str.length_append] at hsz2; omega
      have hz2 : (tx (47 :: jn 47 (row ++ ps.take i))).length ≤ 1000 := by rw [hemp]; decide
      rw [hemp] at F1 hz2
      clear e1 hk
      dsimp only [jn] at F1 hz2 ⊢
      k_steps
      refine' MyTurnEnd.intro (by assumption) (by assumption) (fun p hp => hp) (.cons rfl .nil) ⟨⟨?jT0, ?jA0⟩, keeps2 ?jB0, rfl⟩
      case jA0 => rw [hnext]; exact rfl
      case jB0 => intro z h1 h2; simp only [if_neg h1, if_neg h2]
    · have hnext : tx (47 :: jn 47 (row ++ ps.take (i + 1))) = tx (47 :: jn 47 (row ++ ps.take i)) ++ (tx [47] ++ tx p) := by
        rw [hst, jn_snoc p hemp, tx_app, tx_app]; simp
      have hz0 : (tx (47 :: jn 47 (row ++ ps.take i))).length ≤ 1000 := by rw [hnext, Str.length_append] at hsz2; omega
      have hz1 : (tx p).length ≤ 1000 := by rw [hnext, Str.length_append, Str.length_append] at hsz2; omega
      have hz2 : (tx [47] ++ tx p).length ≤ 1000 := by rw [hnext, Str.length_append] at hsz2; omega
      have hc2 : ((47 :: jn 47 (row ++ ps.take i)).getLast? == some 47) = false := by
        have h1 := jn_last (c := 47) (ps := row ++ ps.take i) hpre
        have h2 : jn 47 (row ++ ps.take i) ≠ [] := fun e => hemp ((jn_nil_iff (fun q hq => (hpre q hq).1)).mp e)
        rw [List.getLast?_cons]
        cases hj : (jn 47 (row ++ ps.take i)).getLast? with
        | none => rw [List.getLast?_eq_none_iff] at hj; exact absurd hj h2
        | some b =>
          rw [hj] at h1
          have hb : b ≠ 47 := fun e => h1 (by rw [e])
          simp [hb]
      clear e1 hk
      k_steps
      refine' MyTurnEnd.intro (by assumption) (by assumption) (fun p hp => hp) (.cons rfl .nil) ⟨⟨?jT1, ?jA1⟩, keeps2 ?jB1, rfl⟩
      case jA1 => rw [hnext]; exact rfl
      case jB1 => intro z h1 h2; simp only [if_neg h1, if_neg h2]

def nrmStep (acc : List (List Nat)) (c : List Nat) : List (List Nat) := if c = [46, 46] then acc.dropLast else acc ++ [c]
def nrm (cs : List (List Nat)) : List (List Nat) := cs.foldl nrmStep []
/-- what split gives of a joined row -/
def nz (cs : List (List Nat)) : List (List Nat) := if cs = [] then [[]] else cs
theorem jn_nz (c : Nat) (cs : List (List Nat)) : jn c cs = jn c (nz cs) := by
  unfold nz; split
  · rename_i e; rw [e]; rfl
  · rfl
theorem nz_ne (cs : List (List Nat)) : nz cs ≠ [] := by
  unfold nz; split
  · simp
  · assumption
theorem nz_free {c : Nat} {cs : List (List Nat)} (h : ∀ p ∈ cs, c ∉ p) : ∀ p ∈ nz cs, c ∉ p := by
  unfold nz; split
  · intro p hp; rw [List.mem_singleton.mp hp]; simp
  · exact h
def nrmT (acc : List (List Nat)) (c : List Nat) : List (List Nat) := if c = [] ∨ c = [46] then acc else nrmStep acc c
theorem nrmT_fold : ∀ {cs : List (List Nat)} {acc : List (List Nat)}, (∀ p ∈ cs, Part p ∧ p ≠ [46]) → cs.foldl nrmT acc = cs.foldl nrmStep acc
  | [], _, _ => rfl
  | c :: r, acc, h => by
    have hc := h c (by simp)
    rw [List.foldl_cons, List.foldl_cons, nrmT_fold (fun p hp => h p (List.mem_cons_of_mem _ hp))]
    unfold nrmT
    rw [if_neg (fun e => e.elim hc.1.1 hc.2)]
theorem nrmT_nz {cs : List (List Nat)} (h : ∀ p ∈ cs, Part p ∧ p ≠ [46]) : (nz cs).foldl nrmT [] = nrm cs := by
  unfold nz; split
  · rename_i e; rw [e]; rfl
  · exact nrmT_fold h
theorem nrm_wt : ∀ (l acc : List (List Nat)), wt (l.foldl nrmStep acc) ≤ wt acc + wt l
  | [], acc => Nat.le_add_right _ _
  | c :: r, acc => by
    have ih := nrm_wt r (nrmStep acc c)
    have h : wt (nrmStep acc c) ≤ wt acc + (c.length + 1) := by
      unfold nrmStep
      split
      · have := wt_dropLast acc; omega
      · rw [wt_app]; simp [wt]
    rw [List.foldl_cons, wt_cons]
    omega
theorem nrm_size {c : Nat} {cs : List (List Nat)} : (jn c (nrm cs)).length ≤ (jn c cs).length + 1 := by
  have h1 := nrm_wt cs []
  have h2 := jn_le_wt (c := c) (ps := nrm cs)
  have h3 := wt_le_jn (c := c) (ps := cs)
  have h4 : wt [] = 0 := rfl
  unfold nrm at *
  omega
theorem nrmT_len : ∀ (l acc : List (List Nat)), (l.foldl nrmT acc).length ≤ acc.length + l.length
  | [], acc => Nat.le_refl _
  | c :: r, acc => by
    have ih := nrmT_len r (nrmT acc c)
    have h : (nrmT acc c).length ≤ acc.length + 1 := by
      unfold nrmT nrmStep
      split
      · omega
      · split
        · rw [List.length_dropLast]; omega
        · simp
    simp only [List.foldl_cons, List.length_cons]
    omega
theorem nrmT_good : ∀ (l acc : List (List Nat)), (∀ p ∈ l, p = [] ∨ Part p) → (∀ q ∈ acc, Part q ∧ q ≠ [46, 46]) → ∀ q ∈ l.foldl nrmT acc, Part q ∧ q ≠ [46, 46]
  | [], acc, _, h => h
  | c :: r, acc, hl, h => by
    refine nrmT_good r (nrmT acc c) (fun p hp => hl p (List.mem_cons_of_mem _ hp)) fun q hq => ?_
    unfold nrmT nrmStep at hq
    split at hq
    · exact h q hq
    · rename_i hc
      split at hq
      · exact h q ((List.dropLast_sublist _).subset hq)
      · rename_i hdd
        rcases List.mem_append.mp hq with hq | hq
        · exact h q hq
        · rw [List.mem_singleton.mp hq]
          rcases hl c (by simp) with e | e
          · exact absurd (.inl e) hc
          · exact ⟨e, hdd⟩
theorem normpath_ok {w : World} {A : Around} {E : Value → Shared → Prop} {s : Shared} {V : Program} {Lo : List Str} {mg mb : Str → Option Value} {Q : Value → Shared → Prop} {cs ds : List (List Nat)} {t : Tok}
  (X : (hd.heap_1 w.params).In s.heap) (T : TR V Lo mg mb s.heap) (hdp : A.depth + 20 < recursionLimit) (hu : A.units + 200 < cLine) (hh : A.handled = none)
  (hcs : ∀ p ∈ cs, Part p ∧ p ≠ [46]) (hsz : (tx (47 :: jn 47 cs)).length ≤ 1000) (hn : nrm cs = ds)
  (h : ∀ h' t' u, s.heap.StaysIn h' → Q (.str (tx (47 :: jn 47 ds)) u) { s with heap := h', toks := t' }) :
  wpAny (model Pg w) A (call (.ref 136) [.str (tx (47 :: jn 47 cs)) t]) Q E s := by
  subst hn
  obtain ⟨hd0, d0, fr0, gu0, un0⟩ := A
  dsimp only at hh hdp hu
  subst hh
  w_on
  have hparts : ∀ p ∈ cs, p ≠ [] ∧ 47 ∉ p := fun p hp => (hcs p hp).1
  refine' enter (K := hd.heap_1 w.params) (args := ⟨[.str (tx (47 :: jn 47 cs)) t], []⟩) (binds := [(Str.ofString "path", .str (tx (47 :: jn 47 cs)) t)]) X T ?k1 ?k2 ?k3 ?k4 ?k5 ?_ ?k6 ?k7 ?k8 ?k9
  walk_at "my:cases"
  intro L' h₁ F N
  dsimp only [List.reverse, List.reverseAux] at F
  k_fold
  k_steps
  unfold Held
  refine' splitroot_ok ?sX ?sT ?sd ?su ?qr1 ?qz1 ?_
  walk_at "my:site"
  case qr1 => first | assumption | exact jn_head (by assumption)
  case qz1 => assumption
  intro _ _ _ _ _ _ kS kN1 kN2
  (with_reducible rename Fr _ _ _ _ => kF)
  (with_reducible rename News _ _ _ _ => kN)
  have N' := newsMore kF kN kS kN1 kN2
  have F' := frGo kF kS
  clear kF kN kS kN1 kN2
  k_steps
  (with_reducible rename Fr _ _ _ _ => kF)
  (with_reducible rename News _ _ _ _ => kN)
  refine split_ok kF kN lit_slash (jn_nz 47 cs) (nz_ne cs) (nz_free fun p hp => (hparts p hp).2) (by walk_at "my:len") ?_
  intro D vs h' k hv hvl F1 N1 hlt
  k_lt hlt
  clear kF kN
  have hnz : (nz cs).length ≤ 1000 := by
    have h1 := jn_len (c := 47) (ps := cs) (fun p hp => (hparts p hp).1)
    simp only [tx_len, List.length_cons] at hsz
    unfold nz; split
    · exact Nat.le_of_ble_eq_true rfl
    · omega
  k_steps
  (with_reducible rename Fr _ _ _ _ => kF)
  (with_reducible rename News _ _ _ _ => kN)
  refine newsTwo kN (fun B hB N0 => ?_)
  subst hB
  refine withMap kF (fun m₀ hm₀ F0 => ?_)
  clear kF kN
  refine' loop_list (keep := [(D, _)]) rfl F0 N0 (N0.get (.tail _ (.head _))) ⟨rfl, rfl⟩ (.inr rfl) (N0 _ (.tail _ (.head _))).2.1
    (fun i m nx => Keeps [Str.ofString "comp"] m m₀ ∧ ∃ us n, Txs us (((nz cs).take i).foldl nrmT []) ∧ nx = [(B, listOf us.toArray n), (D, { cls := .type "list", data := .seq vs.toArray })]) ?hk ?h0 ?turn ?done
  case hk => rintro i m nx ⟨_, us, n, _, rfl⟩ p hp; exact .tail _ hp
  case h0 => exact ⟨Keeps.refl, [], 0, .nil, rfl⟩
  case done =>
    rintro m₁ news₁ h₂ tk₂ ⟨hk, us, n, hu2, rfl⟩ F1 N1
    have hl : vs.length = (nz cs).length := hv.length
    rw [hl, List.take_length, nrmT_nz hcs] at hu2
    obtain ⟨u, rfl⟩ := mf1u hk
    subst hm₀
    clear F0 N0
    dsimp only
    k_steps
    (with_reducible rename Fr _ _ _ _ => kF)
    (with_reducible rename News _ _ _ _ => kN)
    have hjl : (tx (jn 47 (nrm cs))).length ≤ 1000 := by
      have h1 := nrm_size (c := 47) (cs := cs)
      simp only [tx_len, List.length_cons] at hsz ⊢
      omega
    refine strjoin_ok (kN.get (.head _)) lit_slash hu2 (by omega) (by have := nrmT_len (nz cs) []; rw [nrmT_nz hcs] at this; simp only [List.length_nil] at this; omega) ?_
    intro t' k'
    have e1 : tx [47] ++ tx (jn 47 (nrm cs)) = tx (47 :: jn 47 (nrm cs)) := by rw [tx_app]; rfl
    have hz1 : (tx [47]).length ≤ 1000 := by decide
    k_steps
    rw [← e1] at h
    exact h _ _ _ (Fr.keep (by assumption))
  case turn =>
    rintro i v m₁ news₁ h₂ tk₂ own hi ⟨hk, us, n, hu2, rfl⟩ hoff F1 N1
    obtain ⟨p, u, rfl, hp⟩ := hv.get hi
    obtain ⟨u, rfl⟩ := mf1u hk
    clear hk
    subst hm₀
    clear F0 N0
    have hst : ((nz cs).take (i + 1)).foldl nrmT [] = nrmT (((nz cs).take i).foldl nrmT []) p := by rw [List.take_add_one, hp]; simp
    have hz1 : (tx p).length ≤ 1000 := by
      have h1 := jn_mem_len (c := 47) (List.mem_of_getElem? hp)
      rw [← jn_nz] at h1
      simp only [tx_len, List.length_cons] at *; omega
    have hpp : p = [] ∨ (Part p ∧ p ≠ [46]) := by
      have := List.mem_of_getElem? hp
      unfold nz at this
      split at this
      · exact .inl (List.mem_singleton.mp this)
      · exact .inr (hcs p this)
    dsimp only at F1 ⊢
    simp only [List.cons_append, List.nil_append] at N1
    simp only [List.map_cons, List.map_nil] at hoff
    have hul : us.length ≤ 1000 := by
      have h1 := nrmT_len ((nz cs).take i) []
      have h2 := hu2.length
      have h3 : ((nz cs).take i).length ≤ (nz cs).length := by simp; omega
      simp only [List.length_nil] at h1
      omega
    rcases hpp with rfl | ⟨hpp, hp46⟩
    · k_steps
      refine' MyTurnEnd.intro (by assumption) (by assumption) (fun p hp => hp) (.cons rfl (.cons rfl .nil)) ⟨keeps1 ?jA0, us, n, ?jB0, rfl⟩
      case jA0 => intro z h1; simp only [if_neg h1]
      case jB0 => rw [hst]; exact hu2
    · have hc1 : p.isEmpty = false := by
        cases p with
        | nil => exact absurd rfl hpp.1
        | cons a r => rfl
      have hc2 : (p == [46]) = false := by simpa using hp46
      by_cases hdd : p = [46, 46]
      · subst hdd
        have hgood := nrmT_good ((nz cs).take i) [] (fun q hq => by
          have h1 := List.mem_of_mem_take hq
          unfold nz at h1
          split at h1
          · exact .inl (List.mem_singleton.mp h1)
          · exact .inr (hcs q h1).1) (fun _ h => nomatch h)
        rcases List.eq_nil_or_concat (((nz cs).take i).foldl nrmT []) with he | ⟨acc, q, he⟩
        · rw [he] at hu2
          cases hu2
          k_steps
          refine' MyTurnEnd.intro (by assumption) (by assumption) (fun p hp => hp) (.cons rfl (.cons rfl .nil)) ⟨keeps1 ?jA1, [], n, ?jB1, rfl⟩
          case jA1 => intro z h1; simp only [if_neg h1]
          case jB1 => rw [hst, he]; exact .nil
        · rw [List.concat_eq_append] at he
          rw [he] at hu2 hgood
          obtain ⟨us', tq, rfl, hu3⟩ := hu2.unsnoc
          have hq := hgood q (by simp)
          have hc4 : (q == [46, 46]) = false := by simpa using hq.2
          have hc5 : (us' ++ [Value.str (tx q) tq]).isEmpty = false := by simp
          k_steps
          refine' MyTurnEnd.intro (by assumption) (by assumption) (fun p hp => hp) (.cons rfl (.cons rfl .nil)) ⟨keeps1 ?jA2, us', n + 1, ?jB2, rfl⟩
          case jA2 => intro z h1; simp only [if_neg h1]
          case jB2 =>
            rw [hst, he]
            unfold nrmT nrmStep
            rw [if_neg (by decide), if_pos rfl, List.dropLast_concat]
            exact hu3
      · have hc3 : (p != [46, 46]) = true := by simpa using hdd
        k_steps
        refine' MyTurnEnd.intro (by assumption) (by assumption) (fun p hp => hp) (.cons rfl (.cons rfl .nil)) ⟨keeps1 ?jA3, us ++ [.str (tx p) _], n + 1, ?jB3, rfl⟩
        case jA3 => intro z h1; simp only [if_neg h1]
        case jB3 =>
          rw [hst]
          unfold nrmT nrmStep
          rw [if_neg (fun e => e.elim hpp.1 hp46), if_neg hdd]
          exact hu2.snoc _ _

theorem abspath_ok {w : World} {A : Around} {E : Value → Shared → Prop} {s : Shared} {V : Program} {Lo : List Str} {mg mb : Str → Option Value} {Q : Value → Shared → Prop} {cs ds : List (List Nat)} {t : Tok}
  (X : (hd.heap_1 w.params).In s.heap) (T : TR V Lo mg mb s.heap) (hdp : A.depth + 30 < recursionLimit) (hu : A.units + 250 < cLine) (hh : A.handled = none)
  (hcs : ∀ p ∈ cs, Part p ∧ p ≠ [46]) (hsz : (tx (47 :: jn 47 cs)).length ≤ 1000) (hn : nrm cs = ds)
  (h : ∀ h' t' u, s.heap.StaysIn h' → Q (.str (tx (47 :: jn 47 ds)) u) { s with heap := h', toks := t' }) :
  wpAny (model Pg w) A (call (.ref 143) [.str (tx (47 :: jn 47 cs)) t]) Q E s := by
  obtain ⟨hd0, d0, fr0, gu0, un0⟩ := A
  dsimp only at hh hdp hu
  subst hh
  w_on
  have hc1 : ((47 :: jn 47 cs).head? == some 47) = true := rfl
  refine' enter (K := hd.heap_1 w.params) (args := ⟨[.str (tx (47 :: jn 47 cs)) t], []⟩) (binds := [(Str.ofString "path", .str (tx (47 :: jn 47 cs)) t)]) X T ?k1 ?k2 ?k3 ?k4 ?k5 ?_ ?k6 ?k7 ?k8 ?k9
  walk_at "my:cases"
  intro L' h₁ F N
  dsimp only [List.reverse, List.reverseAux] at F
  k_fold
  k_steps
  unfold Held
  refine' normpath_ok ?sX ?sT ?sd ?su ?qhh2 ?qc2 ?qz2 ?qn2 ?_
  walk_at "my:site"
  case qhh2 => first | rfl | assumption
  case qc2 => assumption
  case qz2 => assumption
  case qn2 => first | assumption | rfl
  intro _ _ _ _
  walk_at "my:carry"
  k_steps
  exact h _ _ _ (Fr.keep (by assumption))

/-- the order of two lists of texts -/
def lexLt : List (List Nat) → List (List Nat) → Bool
  | [], [] => false
  | [], _ :: _ => true
  | _ :: _, [] => false
  | a :: r, b :: t => if a = b then lexLt r t else decide (a < b)
theorem drop_cons_of {α : Type} {l : List α} {i : Nat} {a : α} (h : l[i]? = some a) : l.drop i = a :: l.drop (i + 1) := by
  obtain ⟨hi, e⟩ := List.getElem?_eq_some_iff.mp h
  rw [List.drop_eq_getElem_cons hi, e]
theorem lexLt_nil_l (b : List (List Nat)) : lexLt [] b = decide (0 < b.length) := by cases b <;> simp [lexLt]
theorem lexLt_nil_r (a : List (List Nat)) : lexLt a [] = false := by cases a <;> rfl
section
open AutoSeq1 (wpAny_loadPart')
open MeetsSeq MeetsSeq3
theorem lt_loop (l b : Addr) (us vs : List Value) (as bs : List (List Nat)) (n n2 : Nat) (hu : Txs us as) (hv : Txs vs bs) (k : Nat) :
    ∀ i : Nat, as.length - i = k → i ≤ as.length → i ≤ bs.length → Meets (Builtin.«list.__eq__.loop» ⟨[.ref l, .ref b, rawInt i, rawInt 0], []⟩)
      (fun _ R s => s.heap.get? l = some { cls := .type "list", dict := none, data := .seq us.toArray n, slots := #[] } ∧ s.heap.get? b = some { cls := .type "list", dict := none, data := .seq vs.toArray n2, slots := #[] } ∧
        R (.ok (.ret (.bool (lexLt (as.drop i) (bs.drop i))))) s) := by
  have hlu := hu.length
  have hlv := hv.length
  induction k with
  | zero =>
    intro i hk hi1 hi2 prog w A R s h
    obtain ⟨hp, g, d, tk, os⟩ := s; obtain ⟨hl, hb, h⟩ := h
    wp_walk using wpAny_loadPart' hl, wpAny_loadPart' hb
    have h1 : us.toArray[((i : Nat) : Int).toNat]? = none := by simp; omega
    rw [h1]
    wp_walk using wpAny_loadPart' hl, wpAny_loadPart' hb
    show R (.ok (.ret (.bool (decide (us.toArray.size < vs.toArray.size))))) _
    have e : (lexLt (as.drop i) (bs.drop i)) = decide (us.toArray.size < vs.toArray.size) := by
      have ea : as.drop i = [] := by rw [List.drop_eq_nil_iff]; omega
      rw [ea, lexLt_nil_l]
      first
        | (rw [decide_eq_decide]; simp; omega)
        | (symm; rw [decide_eq_false_iff_not]; simp; omega)
    rw [← e]; exact h
  | succ k ih =>
    intro i hk hi1 hi2 prog w A R s h
    obtain ⟨hp, g, d, tk, os⟩ := s; obtain ⟨hl, hb, h⟩ := h
    wp_walk using wpAny_loadPart' hl, wpAny_loadPart' hb
    have hlt : i < as.length := by omega
    obtain ⟨tx1, h1⟩ := hu.at (List.getElem?_eq_getElem hlt)
    have h1' : us.toArray[((i : Nat) : Int).toNat]? = some (.str (tx as[i]) tx1) := by simpa using h1
    have hda := drop_cons_of (List.getElem?_eq_getElem hlt)
    rw [h1']
    by_cases hb2 : i < bs.length
    · obtain ⟨tx2, h2⟩ := hv.at (List.getElem?_eq_getElem hb2)
      have h2' : vs.toArray[((i : Nat) : Int).toNat]? = some (.str (tx bs[i]) tx2) := by simpa using h2
      have hdb := drop_cons_of (List.getElem?_eq_getElem hb2)
      rw [h2']
      have hc : ((i : Int) + 1) = ((i + 1 : Nat) : Int) := by push_cast; rfl
      refine wpAny_bind (wpAny_eqBool_str ?_)
      rw [hda, hdb] at h
      by_cases he : as[i] = bs[i]
      · have e1 : decide (tx as[i] = tx bs[i]) = true := decide_eq_true (by rw [he])
        rw [e1]
        wp_walk
        rw [hc]
        refine ⟨plainId_quiet plain_eq_loop _, codeAny_builtin entry_eq_loop (by
          rw [Around.under_plainId plain_eq_loop _]
          refine ih (i + 1) (by omega) (by omega) (by omega) prog w A R _ ⟨hl, hb, ?_⟩
          rw [he] at h
          simpa [lexLt] using h)⟩
      · have e1 : decide (tx as[i] = tx bs[i]) = false := decide_eq_false (fun q => he (tx_inj q))
        rw [e1]
        wp_walk using wpAny_loadPart' hl, wpAny_loadPart' hb
        rw [h1', h2']
        refine wpAny_bind (lt_str ?_)
        wp_walk
        simp only [lexLt] at h
        first
          | (rw [if_neg he] at h; exact h)
          | (rw [if_neg (fun q => he q.symm)] at h; exact h)
    · have h2' : vs.toArray[((i : Nat) : Int).toNat]? = none := by simp; omega
      rw [h2']
      wp_walk using wpAny_loadPart' hl, wpAny_loadPart' hb
      show R (.ok (.ret (.bool (decide (us.toArray.size < vs.toArray.size))))) _
      have e : (lexLt (as.drop i) (bs.drop i)) = decide (us.toArray.size < vs.toArray.size) := by
        have eb : bs.drop i = [] := by rw [List.drop_eq_nil_iff]; omega
        rw [eb, lexLt_nil_r]
        first
          | (rw [decide_eq_decide]; simp; omega)
          | (symm; rw [decide_eq_false_iff_not]; simp; omega)
      rw [← e]; exact h
theorem lt_lists {prog : Program} {w : World} {A : Around} {E : Value → Shared → Prop} {s : Shared} {l b : Addr} {us vs : List Value} {as bs : List (List Nat)} {n n2 : Nat} {Q : Value → Shared → Prop} (hu : Txs us as) (hv : Txs vs bs)
    (hl : s.heap.get? l = some (listOf us.toArray n)) (hb : s.heap.get? b = some (listOf vs.toArray n2)) (hun : A.units < cLine) (h : Q (.bool (lexLt as bs)) s) : wpAny (model prog w) A (richCompare .Lt (.ref l) (.ref b)) Q E s := by
  refine richCompare_meets_room (op := .Lt) (S := fun _ R s => s.heap.get? l = some (listOf us.toArray n) ∧ s.heap.get? b = some (listOf vs.toArray n2) ∧ R (.ok (.ret (.bool (lexLt as bs)))) s) ⟨_, hl, rfl⟩ ⟨_, hb, rfl⟩ F.slot_list_lt F.entry_list_lt (F.args_list_lt_2 _ _) ?_
    ⟨hl, hb, (fun x => nomatch x), h⟩ hun
  intro prog w A R s h
  obtain ⟨hp, g, d, tk, os⟩ := s; obtain ⟨hl, hb, h⟩ := h
  have f3 := AutoSeq1.sub_list_list
  wp_walk using wpAny_loadPart' hl, wpAny_loadPart' hb
  exact ⟨plainId_quiet plain_eq_loop _, codeAny_builtin entry_eq_loop (by
    rw [Around.under_plainId plain_eq_loop _]
    exact lt_loop l b us vs as bs n n2 hu hv _ 0 rfl (Nat.zero_le _) (Nat.zero_le _) prog w A R _ ⟨hl, hb, by simpa using h⟩)⟩
theorem gt_loop (l b : Addr) (us vs : List Value) (as bs : List (List Nat)) (n n2 : Nat) (hu : Txs us as) (hv : Txs vs bs) (k : Nat) :
    ∀ i : Nat, as.length - i = k → i ≤ as.length → i ≤ bs.length → Meets (Builtin.«list.__eq__.loop» ⟨[.ref l, .ref b, rawInt i, rawInt 4], []⟩)
      (fun _ R s => s.heap.get? l = some { cls := .type "list", dict := none, data := .seq us.toArray n, slots := #[] } ∧ s.heap.get? b = some { cls := .type "list", dict := none, data := .seq vs.toArray n2, slots := #[] } ∧
        R (.ok (.ret (.bool (lexLt (bs.drop i) (as.drop i))))) s) := by
  have hlu := hu.length
  have hlv := hv.length
  induction k with
  | zero =>
    intro i hk hi1 hi2 prog w A R s h
    obtain ⟨hp, g, d, tk, os⟩ := s; obtain ⟨hl, hb, h⟩ := h
    wp_walk using wpAny_loadPart' hl, wpAny_loadPart' hb
    have h1 : us.toArray[((i : Nat) : Int).toNat]? = none := by simp; omega
    rw [h1]
    wp_walk using wpAny_loadPart' hl, wpAny_loadPart' hb
    show R (.ok (.ret (.bool (decide (us.toArray.size > vs.toArray.size))))) _
    have e : (lexLt (bs.drop i) (as.drop i)) = decide (us.toArray.size > vs.toArray.size) := by
      have ea : as.drop i = [] := by rw [List.drop_eq_nil_iff]; omega
      rw [ea, lexLt_nil_r]
      first
        | (rw [decide_eq_decide]; simp; omega)
        | (symm; rw [decide_eq_false_iff_not]; simp; omega)
    rw [← e]; exact h
  | succ k ih =>
    intro i hk hi1 hi2 prog w A R s h
    obtain ⟨hp, g, d, tk, os⟩ := s; obtain ⟨hl, hb, h⟩ := h
    wp_walk using wpAny_loadPart' hl, wpAny_loadPart' hb
    have hlt : i < as.length := by omega
    obtain ⟨tx1, h1⟩ := hu.at (List.getElem?_eq_getElem hlt)
    have h1' : us.toArray[((i : Nat) : Int).toNat]? = some (.str (tx as[i]) tx1) := by simpa using h1
    have hda := drop_cons_of (List.getElem?_eq_getElem hlt)
    rw [h1']
    by_cases hb2 : i < bs.length
    · obtain ⟨tx2, h2⟩ := hv.at (List.getElem?_eq_getElem hb2)
      have h2' : vs.toArray[((i : Nat) : Int).toNat]? = some (.str (tx bs[i]) tx2) := by simpa using h2
      have hdb := drop_cons_of (List.getElem?_eq_getElem hb2)
      rw [h2']
      have hc : ((i : Int) + 1) = ((i + 1 : Nat) : Int) := by push_cast; rfl
      refine wpAny_bind (wpAny_eqBool_str ?_)
      rw [hda, hdb] at h
      by_cases he : as[i] = bs[i]
      · have e1 : decide (tx as[i] = tx bs[i]) = true := decide_eq_true (by rw [he])
        rw [e1]
        wp_walk
        rw [hc]
        refine ⟨plainId_quiet plain_eq_loop _, codeAny_builtin entry_eq_loop (by
          rw [Around.under_plainId plain_eq_loop _]
          refine ih (i + 1) (by omega) (by omega) (by omega) prog w A R _ ⟨hl, hb, ?_⟩
          rw [he] at h
          simpa [lexLt] using h)⟩
      · have e1 : decide (tx as[i] = tx bs[i]) = false := decide_eq_false (fun q => he (tx_inj q))
        rw [e1]
        wp_walk using wpAny_loadPart' hl, wpAny_loadPart' hb
        rw [h1', h2']
        refine wpAny_bind (P.gt_str ?_)
        wp_walk
        simp only [lexLt] at h
        first
          | (rw [if_neg he] at h; exact h)
          | (rw [if_neg (fun q => he q.symm)] at h; exact h)
    · have h2' : vs.toArray[((i : Nat) : Int).toNat]? = none := by simp; omega
      rw [h2']
      wp_walk using wpAny_loadPart' hl, wpAny_loadPart' hb
      show R (.ok (.ret (.bool (decide (us.toArray.size > vs.toArray.size))))) _
      have e : (lexLt (bs.drop i) (as.drop i)) = decide (us.toArray.size > vs.toArray.size) := by
        have eb : bs.drop i = [] := by rw [List.drop_eq_nil_iff]; omega
        rw [eb, lexLt_nil_l]
        first
          | (rw [decide_eq_decide]; simp; omega)
          | (symm; rw [decide_eq_false_iff_not]; simp; omega)
      rw [← e]; exact h
theorem gt_lists {prog : Program} {w : World} {A : Around} {E : Value → Shared → Prop} {s : Shared} {l b : Addr} {us vs : List Value} {as bs : List (List Nat)} {n n2 : Nat} {Q : Value → Shared → Prop} (hu : Txs us as) (hv : Txs vs bs)
    (hl : s.heap.get? l = some (listOf us.toArray n)) (hb : s.heap.get? b = some (listOf vs.toArray n2)) (hun : A.units < cLine) (h : Q (.bool (lexLt bs as)) s) : wpAny (model prog w) A (richCompare .Gt (.ref l) (.ref b)) Q E s := by
  refine richCompare_meets_room (op := .Gt) (S := fun _ R s => s.heap.get? l = some (listOf us.toArray n) ∧ s.heap.get? b = some (listOf vs.toArray n2) ∧ R (.ok (.ret (.bool (lexLt bs as)))) s) ⟨_, hl, rfl⟩ ⟨_, hb, rfl⟩ F.slot_list_gt F.entry_list_gt (F.args_list_gt_2 _ _) ?_
    ⟨hl, hb, (fun x => nomatch x), h⟩ hun
  intro prog w A R s h
  obtain ⟨hp, g, d, tk, os⟩ := s; obtain ⟨hl, hb, h⟩ := h
  have f3 := AutoSeq1.sub_list_list
  wp_walk using wpAny_loadPart' hl, wpAny_loadPart' hb
  exact ⟨plainId_quiet plain_eq_loop _, codeAny_builtin entry_eq_loop (by
    rw [Around.under_plainId plain_eq_loop _]
    exact gt_loop l b us vs as bs n n2 hu hv _ 0 rfl (Nat.zero_le _) (Nat.zero_le _) prog w A R _ ⟨hl, hb, by simpa using h⟩)⟩
end

section
theorem min_two {prog : Program} {w : World} {A : Around} {E : Value → Shared → Prop} {s : Shared} {M a b : Addr} {n : Nat} {Q : Value → Shared → Prop} (hh : A.handled = none) (hM : s.heap.get? M = some (listOf [Value.ref a, Value.ref b].toArray n)) (c : Bool)
    (hcmp : ∀ (s' : Shared) (Q : Value → Shared → Prop) (E : Value → Shared → Prop), s.heap.StaysIn s'.heap → Q (.bool c) s' → wpAny (model prog w) A.in1 (richCompare .Lt (.ref b) (.ref a)) Q E s')
    (h : ∀ h' k, s.heap.StaysIn h' → Q (.ref (if c then b else a)) { s with heap := h', toks := k }) : wpAny (model prog w) A (call (.builtin "min") [.ref M]) Q E s := by
  have hname : (toString "min" ++ toString ".loop" : String) = "min.loop" := by decide
  refine call_function_tree F.kind_min F.plain_min F.entry_min (F.args_min1 _) ?_
  show wpAny _ A.in1 (Builtin.Builtins.bindParams "min" ["key", "default"] 0 ⟨[], []⟩ >>= _) _ _ s
  refine wpAny_bind (wpAny_of_eq (show Builtin.Builtins.bindParams "min" ["key", "default"] 0 ⟨[], []⟩ = pure [none, none] from rfl) ?_)
  refine wpAny_bind (wpAny_pure ?_)
  have hls : s.heap.IsList M [Value.ref a, Value.ref b].toArray := ⟨_, hM, rfl, n, rfl⟩
  refine wpAny_bind (wpAny_pyIter_list hls ?_)
  have hMI : M ≠ s.heap.objs.size := Nat.ne_of_lt (Heap.lt_size hM)
  have W := Walks.list (prog := prog) (w := w) (A := A.in1) hh s.heap.objs.size M hMI [Value.ref a, Value.ref b].toArray
  have hfr : s.heap.get? s.heap.objs.size = none := Heap.get?_none_of_le (Nat.le_refl _)
  have hst0 : (s.heap.push { cls := .type "list_iterator", data := .fields #[.ref M, .int 0 0] }).IsListIter s.heap.objs.size M 0 ∧ (s.heap.push { cls := .type "list_iterator", data := .fields #[.ref M, .int 0 0] }).IsList M [Value.ref a, Value.ref b].toArray :=
    ⟨⟨_, Heap.get?_push_size _ rfl, rfl, rfl⟩, hls.at fun o e => Heap.get?_push_of_some _ e⟩
  have hS1 : (s.heap.push { cls := .type "list_iterator", data := .fields #[.ref M, .int 0 0] }).objs.size = s.heap.objs.size + 1 := Heap.size_push ..
  have st1 : s.heap.StaysIn (s.heap.push { cls := .type "list_iterator", data := .fields #[.ref M, .int 0 0] }) := fun d o e => Heap.get?_push_of_some _ e
  revert hst0 hS1 st1
  generalize s.heap.push { cls := .type "list_iterator", data := .fields #[.ref M, .int 0 0] } = h1
  intro hst0 hS1 st1
  refine wpAny_bind (wpAny_newObj_type ?_)
  rw [hname]
  refine wpAny_pure ⟨plainId_quiet F.plain_min_loop _, ?_⟩
  have hSI : h1.objs.size ∉ [s.heap.objs.size] := by simp; omega
  have hSf : h1.objs.size ∉ [s.heap.objs.size, M] := by
    intro hm
    rcases List.mem_cons.mp hm with e | hm
    · omega
    · have e := List.mem_singleton.mp hm
      exact absurd (Heap.lt_size hM) (by rw [← e, hS1]; exact Nat.not_lt.mpr (Nat.le_succ _))
  have hSn : s.heap.get? h1.objs.size = none := Heap.get?_none_of_le (by omega)
  have hst2 := W.frame _ _ _ hst0 fun d _ o e => Heap.get?_push_of_some ({ cls := .type "list", data := .seq #[] } : Obj) e
  have hSg : (h1.push ({ cls := .type "list", data := .seq #[] } : Obj)).get? h1.objs.size = some { cls := .type "list", data := .seq #[] } := Heap.get?_push_size _ rfl
  have st2 : s.heap.StaysIn (h1.push ({ cls := .type "list", data := .seq #[] } : Obj)) := fun d o e => Heap.get?_push_of_some _ (st1 d o e)
  revert hst2 hSg st2 hSI hSf hSn
  show _ → _ → _ → _ → _ → _ → codeAny _ _ _ _ { s with heap := h1.push ({ cls := .type "list", data := .seq #[] } : Obj) }
  generalize h1.objs.size = S
  generalize h1.push ({ cls := .type "list", data := .seq #[] } : Obj) = h2
  intro hSI hSf hSn hst2 hSg st2
  have keep : ∀ {ha hb : Heap}, s.heap.StaysIn ha → (∀ d o, d ∉ [s.heap.objs.size] → ha.get? d = some o → hb.get? d = some o) → s.heap.StaysIn hb := fun x y d o e => y d o (fun q => by rw [List.mem_singleton.mp q, hfr] at e; cases e) (x d o e)
  have keepS : ∀ {ha : Heap} (f : Obj → Obj), s.heap.StaysIn ha → s.heap.StaysIn (ha.update S f) := fun f x d o e => (Heap.get?_update_other _ _ (fun q : S = d => by rw [← q, hSn] at e; cases e)).trans (x d o e)
  refine codeAny_builtin F.entry_min_loop ?_
  rw [Around.under_plainId F.plain_min_loop _]
  show wpAny _ A.in1 (seqItems? (.ref S) >>= _) _ _ _
  refine wpAny_bind (wpAny_seqItems hSg rfl ?_)
  show wpAny _ A.in1 (tryCatch (pyNext (.ref s.heap.objs.size)) _ >>= _) _ _ _
  refine wpAny_bind (wpAny_tryCatch (W.item 0 _ _ _ (by show 0 < 2; decide) hst2 fun v h3 tk3 hP hst3 hk3 => ?_))
  have hv : v = .ref a := by simpa using hP.symm
  subst hv
  have hS3 := hk3 S _ hSI hSg
  have st3 := keep st2 hk3
  show wpAny _ A.in1 (updateSeq S (fun _ => #[.ref a, .ref a]) >>= _) _ _ _
  refine wpAny_bind ?_
  refine wpAny_updateSeq hS3 rfl ?_
  rw [hname]
  refine wpAny_pure ⟨plainId_quiet F.plain_min_loop _, ?_⟩
  have hst4 := W.frame _ _ _ hst3 fun d hd o e => (Heap.get?_update_other _ (Obj.mapSeq fun _ => #[Value.ref a, Value.ref a]) (fun q : S = d => hSf (q ▸ hd))).trans e
  have hS4 := Heap.get?_update_self (Obj.mapSeq fun _ => #[Value.ref a, Value.ref a]) hS3 rfl
  have st4 := keepS (Obj.mapSeq fun _ => #[Value.ref a, Value.ref a]) st3
  refine codeAny_builtin F.entry_min_loop ?_
  rw [Around.under_plainId F.plain_min_loop _]
  show wpAny _ A.in1 (seqItems? (.ref S) >>= _) _ _ _
  refine wpAny_bind (wpAny_seqItems hS4 rfl ?_)
  show wpAny _ A.in1 (tryCatch (pyNext (.ref s.heap.objs.size)) _ >>= _) _ _ _
  refine wpAny_bind (wpAny_tryCatch (W.item 1 _ _ _ (by show 1 < 2; decide) hst4 fun v h5 tk5 hP hst5 hk5 => ?_))
  have hv : v = .ref b := by simpa using hP.symm
  subst hv
  have hS5 := hk5 S _ hSI hS4
  have st5 := keep st4 hk5
  show wpAny _ A.in1 (tryCatch (holding [.ref b, .ref b] (richCompare .Lt (.ref b) (.ref a) >>= _)) _ >>= _) _ _ _
  refine wpAny_bind (wpAny_tryCatch (wpAny_holding (wpAny_bind (hcmp _ _ _ st5 ?_))))
  refine wpAny_bind (wpAny_holding (wpAny_truthy_bool ?_))
  refine wpAny_bind (wpAny_letGo (wpAny_pure ?_))
  have fin : ∀ (x : Addr) (h6 : Heap) (tk6 k6 : Nat), (h6.IsListIter s.heap.objs.size M 2 ∧ h6.IsList M [Value.ref a, Value.ref b].toArray) → h6.get? S = some { cls := .type "list", data := .seq #[.ref x, .ref x] k6 } → s.heap.StaysIn h6 → x = (if c then b else a) →
      codeAny (model prog w) A (.builtin "min.loop" ⟨[.ref s.heap.objs.size, .none, .ref S], []⟩) (fun r s' => match r with | .ok (.ret v) => Q v s' | .ok _ => False | .error e => E e s') { s with heap := h6, toks := tk6 } := by
    intro x h6 tk6 k6 hst6 hS6 st6 hx
    refine codeAny_builtin F.entry_min_loop ?_
    rw [Around.under_plainId F.plain_min_loop _]
    show wpAny _ _ (seqItems? (.ref S) >>= _) _ _ _
    refine wpAny_bind (wpAny_seqItems hS6 rfl ?_)
    show wpAny _ _ (tryCatch (pyNext (.ref s.heap.objs.size)) _ >>= _) _ _ _
    refine wpAny_bind (wpAny_tryCatch (W.done _ _ _ hst6 fun h7 tk7 hk7 => ?_))
    have hS7 := hk7 S _ hSI hS6
    have st7 := keep st6 hk7
    show wpAny _ _ (updateSeq S (fun _ => #[]) >>= _) _ _ _
    refine wpAny_bind ?_
    refine wpAny_updateSeq hS7 rfl (wpAny_bind (wpAny_letGo (wpAny_pure ?_)))
    rw [hx]
    exact h _ _ (keepS _ st7)
  cases hc : c with
  | true =>
    simp only [if_true]
    refine wpAny_bind ?_
    refine wpAny_updateSeq hS5 rfl (wpAny_bind (wpAny_letGo ?_))
    rw [hname]
    refine wpAny_pure ⟨plainId_quiet F.plain_min_loop _, fin b _ _ _ (W.frame _ _ _ hst5 fun d hd o e => (Heap.get?_update_other _ _ (fun q : S = d => hSf (q ▸ hd))).trans e) (Heap.get?_update_self _ hS5 rfl) (keepS _ st5) (by rw [hc]; rfl)⟩
  | false =>
    simp only [Bool.false_eq_true, if_false]
    refine wpAny_bind (wpAny_letGo ?_)
    rw [hname]
    exact wpAny_pure ⟨plainId_quiet F.plain_min_loop _, fin a _ _ _ hst5 hS5 st5 (by rw [hc]; rfl)⟩
theorem max_two {prog : Program} {w : World} {A : Around} {E : Value → Shared → Prop} {s : Shared} {M a b : Addr} {n : Nat} {Q : Value → Shared → Prop} (hh : A.handled = none) (hM : s.heap.get? M = some (listOf [Value.ref a, Value.ref b].toArray n)) (c : Bool)
    (hcmp : ∀ (s' : Shared) (Q : Value → Shared → Prop) (E : Value → Shared → Prop), s.heap.StaysIn s'.heap → Q (.bool c) s' → wpAny (model prog w) A.in1 (richCompare .Gt (.ref b) (.ref a)) Q E s')
    (h : ∀ h' k, s.heap.StaysIn h' → Q (.ref (if c then b else a)) { s with heap := h', toks := k }) : wpAny (model prog w) A (call (.builtin "max") [.ref M]) Q E s := by
  have hname : (toString "max" ++ toString ".loop" : String) = "max.loop" := by decide
  refine call_function_tree F.kind_max F.plain_max F.entry_max (F.args_max1 _) ?_
  show wpAny _ A.in1 (Builtin.Builtins.bindParams "max" ["key", "default"] 0 ⟨[], []⟩ >>= _) _ _ s
  refine wpAny_bind (wpAny_of_eq (show Builtin.Builtins.bindParams "max" ["key", "default"] 0 ⟨[], []⟩ = pure [none, none] from rfl) ?_)
  refine wpAny_bind (wpAny_pure ?_)
  have hls : s.heap.IsList M [Value.ref a, Value.ref b].toArray := ⟨_, hM, rfl, n, rfl⟩
  refine wpAny_bind (wpAny_pyIter_list hls ?_)
  have hMI : M ≠ s.heap.objs.size := Nat.ne_of_lt (Heap.lt_size hM)
  have W := Walks.list (prog := prog) (w := w) (A := A.in1) hh s.heap.objs.size M hMI [Value.ref a, Value.ref b].toArray
  have hfr : s.heap.get? s.heap.objs.size = none := Heap.get?_none_of_le (Nat.le_refl _)
  have hst0 : (s.heap.push { cls := .type "list_iterator", data := .fields #[.ref M, .int 0 0] }).IsListIter s.heap.objs.size M 0 ∧ (s.heap.push { cls := .type "list_iterator", data := .fields #[.ref M, .int 0 0] }).IsList M [Value.ref a, Value.ref b].toArray :=
    ⟨⟨_, Heap.get?_push_size _ rfl, rfl, rfl⟩, hls.at fun o e => Heap.get?_push_of_some _ e⟩
  have hS1 : (s.heap.push { cls := .type "list_iterator", data := .fields #[.ref M, .int 0 0] }).objs.size = s.heap.objs.size + 1 := Heap.size_push ..
  have st1 : s.heap.StaysIn (s.heap.push { cls := .type "list_iterator", data := .fields #[.ref M, .int 0 0] }) := fun d o e => Heap.get?_push_of_some _ e
  revert hst0 hS1 st1
  generalize s.heap.push { cls := .type "list_iterator", data := .fields #[.ref M, .int 0 0] } = h1
  intro hst0 hS1 st1
  refine wpAny_bind (wpAny_newObj_type ?_)
  rw [hname]
  refine wpAny_pure ⟨plainId_quiet F.plain_max_loop _, ?_⟩
  have hSI : h1.objs.size ∉ [s.heap.objs.size] := by simp; omega
  have hSf : h1.objs.size ∉ [s.heap.objs.size, M] := by
    intro hm
    rcases List.mem_cons.mp hm with e | hm
    · omega
    · have e := List.mem_singleton.mp hm
      exact absurd (Heap.lt_size hM) (by rw [← e, hS1]; exact Nat.not_lt.mpr (Nat.le_succ _))
  have hSn : s.heap.get? h1.objs.size = none := Heap.get?_none_of_le (by omega)
  have hst2 := W.frame _ _ _ hst0 fun d _ o e => Heap.get?_push_of_some ({ cls := .type "list", data := .seq #[] } : Obj) e
  have hSg : (h1.push ({ cls := .type "list", data := .seq #[] } : Obj)).get? h1.objs.size = some { cls := .type "list", data := .seq #[] } := Heap.get?_push_size _ rfl
  have st2 : s.heap.StaysIn (h1.push ({ cls := .type "list", data := .seq #[] } : Obj)) := fun d o e => Heap.get?_push_of_some _ (st1 d o e)
  revert hst2 hSg st2 hSI hSf hSn
  show _ → _ → _ → _ → _ → _ → codeAny _ _ _ _ { s with heap := h1.push ({ cls := .type "list", data := .seq #[] } : Obj) }
  generalize h1.objs.size = S
  generalize h1.push ({ cls := .type "list", data := .seq #[] } : Obj) = h2
  intro hSI hSf hSn hst2 hSg st2
  have keep : ∀ {ha hb : Heap}, s.heap.StaysIn ha → (∀ d o, d ∉ [s.heap.objs.size] → ha.get? d = some o → hb.get? d = some o) → s.heap.StaysIn hb := fun x y d o e => y d o (fun q => by rw [List.mem_singleton.mp q, hfr] at e; cases e) (x d o e)
  have keepS : ∀ {ha : Heap} (f : Obj → Obj), s.heap.StaysIn ha → s.heap.StaysIn (ha.update S f) := fun f x d o e => (Heap.get?_update_other _ _ (fun q : S = d => by rw [← q, hSn] at e; cases e)).trans (x d o e)
  refine codeAny_builtin F.entry_max_loop ?_
  rw [Around.under_plainId F.plain_max_loop _]
  show wpAny _ A.in1 (seqItems? (.ref S) >>= _) _ _ _
  refine wpAny_bind (wpAny_seqItems hSg rfl ?_)
  show wpAny _ A.in1 (tryCatch (pyNext (.ref s.heap.objs.size)) _ >>= _) _ _ _
  refine wpAny_bind (wpAny_tryCatch (W.item 0 _ _ _ (by show 0 < 2; decide) hst2 fun v h3 tk3 hP hst3 hk3 => ?_))
  have hv : v = .ref a := by simpa using hP.symm
  subst hv
  have hS3 := hk3 S _ hSI hSg
  have st3 := keep st2 hk3
  show wpAny _ A.in1 (updateSeq S (fun _ => #[.ref a, .ref a]) >>= _) _ _ _
  refine wpAny_bind ?_
  refine wpAny_updateSeq hS3 rfl ?_
  rw [hname]
  refine wpAny_pure ⟨plainId_quiet F.plain_max_loop _, ?_⟩
  have hst4 := W.frame _ _ _ hst3 fun d hd o e => (Heap.get?_update_other _ (Obj.mapSeq fun _ => #[Value.ref a, Value.ref a]) (fun q : S = d => hSf (q ▸ hd))).trans e
  have hS4 := Heap.get?_update_self (Obj.mapSeq fun _ => #[Value.ref a, Value.ref a]) hS3 rfl
  have st4 := keepS (Obj.mapSeq fun _ => #[Value.ref a, Value.ref a]) st3
  refine codeAny_builtin F.entry_max_loop ?_
  rw [Around.under_plainId F.plain_max_loop _]
  show wpAny _ A.in1 (seqItems? (.ref S) >>= _) _ _ _
  refine wpAny_bind (wpAny_seqItems hS4 rfl ?_)
  show wpAny _ A.in1 (tryCatch (pyNext (.ref s.heap.objs.size)) _ >>= _) _ _ _
  refine wpAny_bind (wpAny_tryCatch (W.item 1 _ _ _ (by show 1 < 2; decide) hst4 fun v h5 tk5 hP hst5 hk5 => ?_))
  have hv : v = .ref b := by simpa using hP.symm
  subst hv
  have hS5 := hk5 S _ hSI hS4
  have st5 := keep st4 hk5
  show wpAny _ A.in1 (tryCatch (holding [.ref b, .ref b] (richCompare .Gt (.ref b) (.ref a) >>= _)) _ >>= _) _ _ _
  refine wpAny_bind (wpAny_tryCatch (wpAny_holding (wpAny_bind (hcmp _ _ _ st5 ?_))))
  refine wpAny_bind (wpAny_holding (wpAny_truthy_bool ?_))
  refine wpAny_bind (wpAny_letGo (wpAny_pure ?_))
  have fin : ∀ (x : Addr) (h6 : Heap) (tk6 k6 : Nat), (h6.IsListIter s.heap.objs.size M 2 ∧ h6.IsList M [Value.ref a, Value.ref b].toArray) → h6.get? S = some { cls := .type "list", data := .seq #[.ref x, .ref x] k6 } → s.heap.StaysIn h6 → x = (if c then b else a) →
      codeAny (model prog w) A (.builtin "max.loop" ⟨[.ref s.heap.objs.size, .none, .ref S], []⟩) (fun r s' => match r with | .ok (.ret v) => Q v s' | .ok _ => False | .error e => E e s') { s with heap := h6, toks := tk6 } := by
    intro x h6 tk6 k6 hst6 hS6 st6 hx
    refine codeAny_builtin F.entry_max_loop ?_
    rw [Around.under_plainId F.plain_max_loop _]
    show wpAny _ _ (seqItems? (.ref S) >>= _) _ _ _
    refine wpAny_bind (wpAny_seqItems hS6 rfl ?_)
    show wpAny _ _ (tryCatch (pyNext (.ref s.heap.objs.size)) _ >>= _) _ _ _
    refine wpAny_bind (wpAny_tryCatch (W.done _ _ _ hst6 fun h7 tk7 hk7 => ?_))
    have hS7 := hk7 S _ hSI hS6
    have st7 := keep st6 hk7
    show wpAny _ _ (updateSeq S (fun _ => #[]) >>= _) _ _ _
    refine wpAny_bind ?_
    refine wpAny_updateSeq hS7 rfl (wpAny_bind (wpAny_letGo (wpAny_pure ?_)))
    rw [hx]
    exact h _ _ (keepS _ st7)
  cases hc : c with
  | true =>
    simp only [if_true]
    refine wpAny_bind ?_
    refine wpAny_updateSeq hS5 rfl (wpAny_bind (wpAny_letGo ?_))
    rw [hname]
    refine wpAny_pure ⟨plainId_quiet F.plain_max_loop _, fin b _ _ _ (W.frame _ _ _ hst5 fun d hd o e => (Heap.get?_update_other _ _ (fun q : S = d => hSf (q ▸ hd))).trans e) (Heap.get?_update_self _ hS5 rfl) (keepS _ st5) (by rw [hc]; rfl)⟩
  | false =>
    simp only [Bool.false_eq_true, if_false]
    refine wpAny_bind (wpAny_letGo ?_)
    rw [hname]
    exact wpAny_pure ⟨plainId_quiet F.plain_max_loop _, fin a _ _ _ hst5 hS5 st5 (by rw [hc]; rfl)⟩
end

section
variable {prog : Program} {w : World} {A : Around} {s : Shared} {env : Env} {h₀ : Heap}
/-- the same over a walk that yields tuples -/
theorem loopWT {E : Value → Shared → Prop} {Q : Flow → Shared → Prop} {elts : List Expr} {ek : Nat} {epos : Pos} {body : List Stmt} {I : Addr} {fp wr : List Addr} {n : Nat} {Pt : Nat → Array Value → Prop} {St : Nat → Heap → Prop} {Mid : Nat → Addr → Heap → Prop} {m : Str → Option Value}
    {news keep : List (Addr × Obj)} (W : WalksT prog w A I fp wr n Pt St Mid)
    (hLf : env.locals ∉ fp) (hwr : ∀ b ∈ wr, h₀.get? b = none) (hnw : ∀ p ∈ news, p.1 ∉ wr)
    (hcls : ∀ i h, St i h → ∀ b ∈ wr, ∃ o, h.get? b = some o ∧ itc o = true)
    (hfp : ∀ b ∈ fp, h₀.get? b = none → b ∈ wr ∨ b ∈ keep.map (·.1))
    (hst : St 0 s.heap) (F : Fr h₀ env.locals s.heap m) (N : News h₀ env.locals s.heap news)
    (J : Nat → (Str → Option Value) → List (Addr × Obj) → Prop) (hkeep : ∀ i m nx, J i m nx → ∀ p ∈ keep, p ∈ nx) (h0 : J 0 m news)
    (turn : ∀ i T vals m₁ news₁ h tk own, i < n → Pt i vals → J i m₁ news₁ → OwnOff own (news₁.map (·.1)) → Fr h₀ env.locals h m₁ → News h₀ env.locals h (news₁ ++ own) → h.IsTuple T vals →
      wpAny (model prog w) A (assign (.Tuple elts ek epos) env (.ref T)) (fun _ s₂ => wpAny (model prog w) A (execs body env) (MyTurn h₀ env.locals (J (i + 1)) own { s with heap := h, toks := tk } Q) (fun _ _ => False) s₂) (fun _ _ => False) { s with heap := h, toks := tk })
    (done : ∀ m₁ news₁ h tk, J n m₁ news₁ → Fr h₀ env.locals h m₁ → News h₀ env.locals h news₁ → Q .next { s with heap := h, toks := tk }) :
    codeAny (model prog w) A (.forLoop (.Tuple elts ek epos) (.ref I) body [] env) (fun r s' => match r with | .ok f => Q f s' | .error e => cameBackBy (model prog w) A env E e s') s := by
  have hLw : env.locals ∉ wr := fun h => hLf (W.sub _ h)
  have old : ∀ b o, h₀.get? b = some o → b ∉ wr := fun b o e hb => by rw [hwr b hb] at e; cases e
  refine codeAny_forLoop_any
    (fun k s' => ∃ h' tk m' news' i, s' = { s with heap := h', toks := tk } ∧ St i h' ∧ Fr h₀ env.locals h' m' ∧ News h₀ env.locals h' news' ∧ (∀ p ∈ news', p.1 ∉ wr) ∧ J i m' news' ∧ i ≤ n ∧ k = n + 1 - i) ?_ (n + 1)
    ⟨s.heap, s.toks, m, news, 0, rfl, hst, F, N, hnw, h0, Nat.zero_le _, rfl⟩
  rintro k s' ⟨h', tk, m', news', i, rfl, hst', F', N', hnw', hJ, hi, rfl⟩
  have next : ∀ h₁ : Heap, (∀ b o, b ∉ wr → h'.get? b = some o → h₁.get? b = some o) → Fr h₀ env.locals h₁ m' ∧ News h₀ env.locals h₁ news' := fun h₁ hk₁ =>
    ⟨⟨F'.ns.at' fun o e => hk₁ _ o hLw e, fun b o e => hk₁ b o (old b o e) (F'.keep b o e), F'.above⟩, fun p hp => ⟨hk₁ _ _ (hnw' p hp) (N' p hp).1, (N' p hp).2⟩⟩
  by_cases hlt : i < n
  · refine W.item i _ _ _ hlt hst' fun T vals h₀₁ tk₁ hP hTs hT hmid hk₀₁ => ?_
    refine W.go _ _ _ i T _ _ _ hmid fun h₁ hst₁ hkg => ?_
    have hk₁ : ∀ b o, b ∉ wr → h'.get? b = some o → h₁.get? b = some o := fun b o hb e => hkg b o hb (hk₀₁ b o hb e)
    have hTw := W.apart _ _ _ hmid
    have hT₁ : h₁.IsTuple T vals := hT.at fun o e => hkg T o hTw e
    obtain ⟨F₁, N₁⟩ := next h₁ hk₁
    let own := (ownOf h₀ fp h₁).filter fun p => decide (p.1 ∉ keep.map (·.1))
    have Nown : News h₀ env.locals h₁ own := fun p hp => (news_ownOf hLf) p (List.mem_filter.mp hp).1
    have hoff : OwnOff own (news'.map (·.1)) := by
      intro p hp b hb e
      obtain ⟨hp1, hp2⟩ := List.mem_filter.mp hp
      obtain ⟨q, hq, rfl⟩ := List.mem_map.mp hb
      rcases hfp p.1 (ownOf_sub p hp1) (Nown p hp).2.2 with h1 | h1
      · exact hnw' q hq (e ▸ h1)
      · exact (of_decide_eq_true hp2) h1
    refine wpAny_mono (turn i T vals m' news' h₁ tk₁ own hlt hP hJ hoff F₁ (fun p hp => (List.mem_append.mp hp).elim (N₁ p) (Nown p)) hT₁) (fun _ s₂ h₂ => ?_) fun _ _ x => x.elim
    refine wpAny_mono h₂ (fun f s₃ h₃ => ?_) fun _ _ x => x.elim
    have fin : MyTurnEnd h₀ env.locals (J (i + 1)) own { s with heap := h₁, toks := tk₁ } s₃ → ∃ m, m < n + 1 - i ∧ ∃ h' tk m' news' i, s₃ = { s with heap := h', toks := tk } ∧ St i h' ∧ Fr h₀ env.locals h' m' ∧ News h₀ env.locals h' news' ∧ (∀ p ∈ news', p.1 ∉ wr) ∧ J i m' news' ∧ i ≤ n ∧ m = n + 1 - i := by
      rintro ⟨h₃', tk₃, m₂, nx, rfl, F₃, N₃, hni, hJ₃⟩
      have kept : ∀ b ∈ fp, ∀ o, h₁.get? b = some o → h₃'.get? b = some o := by
        intro b hb o e
        cases hn : h₀.get? b with
        | some o₀ =>
          have : o₀ = o := by have := F₁.keep b o₀ hn; rw [e] at this; exact (Option.some.inj this).symm
          exact this ▸ F₃.keep b o₀ hn
        | none =>
          by_cases hkb : b ∈ keep.map (·.1)
          · obtain ⟨q, hq, rfl⟩ := List.mem_map.mp hkb
            have q1 := (N₁ q (hkeep _ _ _ hJ q hq)).1
            have q2 := (N₃ q (List.mem_append_left _ (hkeep _ _ _ hJ₃ q hq))).1
            rw [e] at q1
            rw [Option.some.inj q1]; exact q2
          · exact (N₃ (b, o) (List.mem_append_right _ (List.mem_filter.mpr ⟨mem_ownOf hb hn e, decide_eq_true hkb⟩))).1
      have hst₃ := W.frame _ _ _ hst₁ kept
      refine ⟨n + 1 - (i + 1), by omega, h₃', tk₃, m₂, nx, i + 1, rfl, hst₃, F₃, fun p hp => N₃ p (List.mem_append_left _ hp), fun p hp hw => ?_, hJ₃, hlt, rfl⟩
      obtain ⟨o, ho, hc⟩ := hcls _ _ hst₃ p.1 hw
      have := (N₃ p (List.mem_append_left _ hp)).1
      rw [ho] at this
      rw [Option.some.inj this, hni p hp] at hc
      cases hc
    cases f with
    | ret v => exact h₃
    | brk => exact h₃
    | cont => exact fin h₃
    | next => exact fin h₃
  · have hin : i = n := by omega
    subst hin
    refine W.done _ _ _ hst' fun h₁ tk₁ hk₁ => wpAny_execs_nil ?_
    obtain ⟨F₁, N₁⟩ := next h₁ hk₁
    exact done m' news' h₁ tk₁ hJ F₁ N₁
end
structure EnumAt (h₀ : Heap) (L : Addr) (h : Heap) (news : List (Addr × Obj)) (e it l : Addr) (items : List Value) : Prop where
  he : IsEnum h e it 0 .none
  hit : h.IsListIter it l 0
  hl : h.IsList l items.toArray
  apart : e ≠ it ∧ l ≠ e ∧ l ≠ it ∧ e ≠ L ∧ it ≠ L
  fresh : h₀.get? e = none ∧ h₀.get? it = none
  off : ∀ p ∈ news, p.1 ≠ e ∧ p.1 ≠ it
section
variable {prog : Program} {w : World} {A : Around} {s : Shared} {env : Env} {h₀ : Heap}
theorem enum_call {E : Value → Shared → Prop} {Q : Value → Shared → Prop} {L l : Addr} {ol : Obj} {items : List Value} {k : Nat} {m : Str → Option Value} {news : List (Addr × Obj)}
    (F : Fr h₀ L s.heap m) (N : News h₀ L s.heap news) (hget : s.heap.get? l = some ol) (hol : ol.cls = .type "list" ∧ ol.data = .seq items.toArray k)
    (h : ∀ h' e it, Fr h₀ L h' m → News h₀ L h' news → EnumAt h₀ L h' news e it l items → Q (.ref e) { s with heap := h' }) :
    wpAny (model prog w) A (call (.type "enumerate") [.ref l]) Q E s := by
  have hls : s.heap.IsList l items.toArray := ⟨ol, hget, hol.1, k, hol.2⟩
  refine call_enumerate_list hls fun h' he hit hsz hk => ?_
  have hlt := Heap.lt_size hget
  have hLs : L < s.heap.objs.size := F.ns.lt
  have hab : h₀.objs.size ≤ L := F.above
  refine h h' _ _ ⟨F.ns.keeps hk, fun b o e => hk b o (F.keep b o e), F.above⟩ (fun p hp => ⟨hk _ _ (N p hp).1, (N p hp).2⟩)
    ⟨he, hit, hls.at fun o e => hk l o e, ⟨Nat.succ_ne_self _, Nat.ne_of_lt (Nat.lt_succ_of_lt hlt), Nat.ne_of_lt hlt, Nat.ne_of_gt (Nat.lt_succ_of_lt hLs), Nat.ne_of_gt hLs⟩,
     ⟨Heap.get?_none_of_le (Nat.le_trans hab (Nat.le_of_lt (Nat.lt_succ_of_lt hLs))), Heap.get?_none_of_le (Nat.le_trans hab (Nat.le_of_lt hLs))⟩,
     fun p hp => ⟨Nat.ne_of_lt (Nat.lt_succ_of_lt (Heap.lt_size (N p hp).1)), Nat.ne_of_lt (Heap.lt_size (N p hp).1)⟩⟩

theorem EnumAt.nil {L e it l : Addr} {h : Heap} {news : List (Addr × Obj)} {items : List Value} (X : EnumAt h₀ L h news e it l items) : EnumAt h₀ L h [] e it l items := ⟨X.he, X.hit, X.hl, X.apart, X.fresh, fun _ hp => nomatch hp⟩
theorem loop_enum {E : Value → Shared → Prop} {Q : Flow → Shared → Prop} {elts : List Expr} {ek : Nat} {epos : Pos} {body : List Stmt} {e it l : Addr} {ol : Obj} {items : List Value} {m : Str → Option Value} {news keep : List (Addr × Obj)}
    (hh : A.handled = none) (F : Fr h₀ env.locals s.heap m) (N : News h₀ env.locals s.heap news) (X : EnumAt h₀ env.locals s.heap news e it l items) (hget : s.heap.get? l = some ol)
    (hsrc : h₀.get? l = some ol ∨ keep = [(l, ol)]) (hne : l ≠ env.locals)
    (J : Nat → (Str → Option Value) → List (Addr × Obj) → Prop) (hkeep : ∀ i m nx, J i m nx → ∀ p ∈ keep, p ∈ nx) (h0 : J 0 m news)
    (turn : ∀ i v T t m₁ news₁ h tk own, items[i]? = some v → J i m₁ news₁ → OwnOff own (news₁.map (·.1)) → Fr h₀ env.locals h m₁ → News h₀ env.locals h (news₁ ++ own) → h.IsTuple T #[.int (i : Int) t, v] →
      wpAny (model prog w) A (assign (.Tuple elts ek epos) env (.ref T)) (fun _ s₂ => wpAny (model prog w) A (execs body env) (MyTurn h₀ env.locals (J (i + 1)) own { s with heap := h, toks := tk } Q) (fun _ _ => False) s₂) (fun _ _ => False) { s with heap := h, toks := tk })
    (done : ∀ m₁ news₁ h tk, J items.length m₁ news₁ → Fr h₀ env.locals h m₁ → News h₀ env.locals h news₁ → Q .next { s with heap := h, toks := tk }) :
    wpAny (model prog w) A (pyIter (.ref e)) (fun it s₂ => codeAny (model prog w) A (.forLoop (.Tuple elts ek epos) it body [] env) (fun r s' => match r with | .ok f => Q f s' | .error e => cameBackBy (model prog w) A env E e s') s₂) E s := by
  obtain ⟨he, hit, hl, ⟨a1, a2, a3, a4, a5⟩, ⟨f1, f2⟩, off⟩ := X
  have D := Draws.list (prog := prog) (w := w) (A := A.in1) hh it l a3 items.toArray
  have W := WalksT.enumerateD D e a1 (by
    intro hm
    rcases List.mem_cons.mp hm with q | hm
    · exact a1 q
    · exact a2 (List.mem_singleton.mp hm).symm) (by simp)
  have hn : items.toArray.size = items.length := by simp
  rw [hn] at W
  refine W.self 0 _ _ _ ⟨⟨_, he⟩, hit, hl⟩ ?_
  refine loopWT (keep := keep) W ?_ ?_ ?_ ?_ ?_ ⟨⟨_, he⟩, hit, hl⟩ F N J hkeep h0 ?_ done
  · intro hm
    rcases List.mem_cons.mp hm with q | hm
    · exact a4 q.symm
    · rcases List.mem_cons.mp hm with q | hm
      · exact a5 q.symm
      · exact hne (List.mem_singleton.mp hm).symm
  · intro b hb
    rcases List.mem_cons.mp hb with q | hb
    · rw [q]; exact f1
    · rw [List.mem_singleton.mp hb]; exact f2
  · intro p hp hb
    rcases List.mem_cons.mp hb with q | hb
    · exact (off p hp).1 q
    · exact (off p hp).2 (List.mem_singleton.mp hb)
  · intro i h hst b hb
    obtain ⟨⟨old, q1⟩, ⟨o, ho, hc, hd⟩, _⟩ := hst
    rcases List.mem_cons.mp hb with q | hb
    · rw [q]; exact ⟨_, q1, rfl⟩
    · rw [List.mem_singleton.mp hb]; exact ⟨o, ho, by unfold itc; rw [hc, hd]; rfl⟩
  · intro b hb hn
    rcases List.mem_cons.mp hb with q | hb
    · exact .inl (by rw [q]; simp)
    · rcases List.mem_cons.mp hb with q | hb
      · exact .inl (by rw [q]; simp)
      · have q := List.mem_singleton.mp hb
        subst q
        rcases hsrc with h1 | h1
        · rw [h1] at hn; cases hn
        · rw [h1]; exact .inr (List.mem_singleton.mpr rfl)
  · rintro i T vals m₁ news₁ h tk own hi ⟨t, x, hP, rfl⟩ hJ hoff F₁ N₁ hT
    exact turn i x T t m₁ news₁ h tk own (by simpa using hP) hJ hoff F₁ N₁ hT
end

section
variable {prog : Program} {w : World} {A : Around} {E : Value → Shared → Prop} {s : Shared} {h₀ : Heap} {L : Addr} {m : Str → Option Value} {news news' : List (Addr × Obj)} {Q : Value → Shared → Prop} {D : Addr} {us : List Value} {n : Nat}
theorem my_item {value slice : Expr} {x : Value} {k : Int} {u : Tok} (hg : s.heap.get? D = some (listOf us.toArray n)) (h0 : 0 ≤ k) (hf : k < 2 ^ 63) (hx : us[k.toNat]? = some x) (h : Q x s)
    (hs : subscripted slice false (.ref D) (.int k u) = operate [.ref D, .int k u] (getItem (.ref D) (.int k u)) := by with_unfolding_all rfl) (hgo : ∀ r, letTemporaryGo value (.ref D) r = pure () := by intro _; with_unfolding_all rfl) :
    wpAny (model prog w) A (subscriptTail value slice (.ref D) (.int k u)) Q E s := item_listL ⟨_, hg, rfl, n, rfl⟩ h0 hf hx h hs hgo
theorem my_truthyB {Q : Bool → Shared → Prop} (hg : s.heap.get? D = some (listOf us.toArray n)) (hz : us.length ≤ 100000) (h : ∀ k, Q (!us.isEmpty) { s with toks := k }) : wpAny (model prog w) A (truthy (.ref D)) Q E s :=
  wpAny_truthy_list ⟨_, hg, rfl, n, rfl⟩ (by rw [List.size_toArray]; omega) (by
    have e : (!us.toArray.isEmpty) = !us.isEmpty := by simp
    rw [e]; exact h _)
theorem sub_list_tuple : isSubtype (.type "list") (.type "tuple") = pure false := by rw [isSubtype_type]; kernel_rfl
theorem sub_list_list : isSubtype (.type "list") (.type "list") = pure true := by rw [isSubtype_type]; kernel_rfl
theorem typ_list : typeOf (.type "list") = pure (.type "type") := by kernel_rfl
theorem typ_tuple : typeOf (.type "tuple") = pure (.type "type") := by kernel_rfl
theorem my_isi {tp : Addr} (hg : s.heap.get? D = some (listOf us.toArray n)) (ht : s.heap.get? tp = some { cls := .type "tuple", data := .seq [Value.type "list", Value.type "tuple"].toArray })
    (h : ∀ k, Q (.bool true) { s with toks := k }) : wpAny (model prog w) A (call (.builtin "isinstance") [.ref D, .ref tp]) Q E s :=
  call_isinstance (isinstance_tuple (Tx := "list") (cs := [Value.type "list", Value.type "tuple"]) (vs := [true, false]) ⟨Answers.of_true typ_list sub_list_list, Answers.of_false_list (by decide) typ_tuple sub_list_tuple, trivial⟩) ⟨⟨_, hg, rfl⟩, ht, h⟩
theorem kms_to (l : List Value) (k : Int) (hk : 0 ≤ k) : kms_pick l none (some k) = l.take k.toNat := by
  obtain ⟨i, rfl⟩ := Int.eq_ofNat_of_zero_le hk
  have h0 : ¬ ((i : Int) < 0) := by omega
  unfold kms_pick kms_lo kms_hi
  simp only [h0, if_false, Int.toNat_natCast, List.drop_zero, Nat.sub_zero]
  by_cases h : i ≤ l.length
  · rw [Nat.min_eq_left h]
  · rw [List.take_of_length_le (by omega), List.take_of_length_le (by omega)]
theorem kms_from (l : List Value) (k : Int) (hk : 0 ≤ k) : kms_pick l (some k) none = l.drop k.toNat := by
  obtain ⟨i, rfl⟩ := Int.eq_ofNat_of_zero_le hk
  have h0 : ¬ ((i : Int) < 0) := by omega
  unfold kms_pick kms_lo kms_hi
  simp only [h0, if_false, Int.toNat_natCast]
  by_cases h : i ≤ l.length
  · rw [Nat.min_eq_left h, List.take_of_length_le (by simp)]
  · rw [List.drop_of_length_le (by omega), List.drop_of_length_le (by omega)]; simp
end
local macro_rules | `(tactic| walk_at "my:get") => `(tactic| first | exact Fr.keep (by k_asm) _ _ (by with_reducible assumption) | exact News.get (by k_asm) (by k_mem))
local macro_rules | `(tactic| walk_at "truthy ref") => `(tactic| (k_here; (with_reducible show wpAny _ _ (truthy (Value.ref _)) _ _ _); k_dflt (refine' my_truthyB ?g ?z ?_; (case g => walk_at "my:get"); (case z => first | assumption | omega | exact Nat.le_of_ble_eq_true rfl); k_whole); intro _))
local macro_rules | `(tactic| walk_at "my:item") => `(tactic| (k_here; (with_reducible show wpAny _ _ (subscriptTail _ _ (Value.ref _) (Value.int _ _)) _ _ _); k_dflt (refine' my_item ?g ?a ?b ?x ?_; (case g => walk_at "my:get"); (case a => first | decide | omega); (case b => first | decide | omega); (case x => first | rfl | assumption); k_whole)))
local macro_rules | `(tactic| walk_at "subscriptTail") => `(tactic| walk_at "my:item")
local macro_rules | `(tactic| walk_at "subscriptTail Name Name ref int") => `(tactic| walk_at "my:item")
local macro_rules | `(tactic| walk_at "subscriptTail Name Constant ref int") => `(tactic| walk_at "my:item")
local macro_rules | `(tactic| walk_at "call builtin:min") => `(tactic| (k_here; (with_reducible show wpAny _ _ (call (Value.builtin _) [Value.ref _]) _ _ _); refine held ?_))
local macro_rules | `(tactic| walk_at "call builtin:max") => `(tactic| (k_here; (with_reducible show wpAny _ _ (call (Value.builtin _) [Value.ref _]) _ _ _); refine held ?_))
local macro_rules | `(tactic| walk_at "call builtin:isinstance") => `(tactic| (k_here; (with_reducible show wpAny _ _ (call (Value.builtin "isinstance") [Value.ref _, Value.ref _]) _ _ _); k_dflt (refine' my_isi ?g ?t ?_; (case g => walk_at "my:get"); (case t => exact News.get (by k_asm) (by k_mem)); k_whole); intro _))
local macro_rules | `(tactic| walk_at "subscriptTail Name Slice ref ref") => `(tactic| (k_here; (with_reducible show wpAny _ _ (subscriptTail _ (PySem.Expr.Slice _ _ none _) (Value.ref _) (Value.ref _)) _ _ _); k_dflt (refine' kms_slice_lit ?F ?N ?l ?p ?q ?e ?_ ?s ?t ?z; walk_at "my:FN"; (case l => exact ⟨_, by walk_at "my:get", rfl, _, rfl⟩); (case p => kmk_part); (case q => kmk_part); (case e => first | exact kms_to _ _ (by omega) | exact kms_from _ _ (by omega)); (case s => with_unfolding_all rfl); (case t => kmk_pure); (case z => (rw [List.size_toArray, sizeLine_eq]; first | assumption | omega))); intro D' h' F' N' l1; (try k_lt l1); (try k_sweep)))

/-- how many the heads of two rows share -/
def alk : List (List Nat) → List (List Nat) → Nat
  | a :: r, b :: t => if a = b then alk r t + 1 else 0
  | _, _ => 0
theorem lexLt_asymm : ∀ a b : List (List Nat), lexLt a b = true → lexLt b a = false
  | [], [], h => by cases h
  | [], _ :: _, _ => rfl
  | _ :: _, [], h => by cases h
  | x :: r, y :: t, h => by
    simp only [lexLt] at h ⊢
    by_cases e : x = y
    · rw [if_pos e] at h; rw [if_pos e.symm]; exact lexLt_asymm r t h
    · rw [if_neg e] at h; rw [if_neg (fun q => e q.symm)]
      rw [decide_eq_true_eq] at h
      rw [decide_eq_false_iff_not]
      exact List.lt_asymm h
theorem lexLt_eq : ∀ a b : List (List Nat), lexLt a b = false → lexLt b a = false → a = b
  | [], [], _, _ => rfl
  | [], _ :: _, h, _ => by cases h
  | _ :: _, [], _, h => by cases h
  | x :: r, y :: t, h, k => by
    simp only [lexLt] at h k
    by_cases e : x = y
    · rw [if_pos e] at h; rw [if_pos e.symm] at k
      rw [e, lexLt_eq r t h k]
    · rw [if_neg e, decide_eq_false_iff_not] at h
      rw [if_neg (fun q => e q.symm), decide_eq_false_iff_not] at k
      exact absurd (List.le_antisymm (List.not_lt.mp k) (List.not_lt.mp h)) e
theorem alk_comm : ∀ a b : List (List Nat), alk a b = alk b a
  | [], [] => rfl
  | [], _ :: _ => rfl
  | _ :: _, [] => rfl
  | x :: r, y :: t => by
    simp only [alk]
    by_cases e : x = y
    · rw [if_pos e, if_pos e.symm, alk_comm r t]
    · rw [if_neg e, if_neg (fun q => e q.symm)]
theorem alk_le : ∀ a b : List (List Nat), alk a b ≤ a.length
  | [], _ => Nat.le_refl _
  | _ :: _, [] => Nat.zero_le _
  | x :: r, y :: t => by
    simp only [alk]
    split
    · have := alk_le r t; simp only [List.length_cons]; omega
    · exact Nat.zero_le _
theorem alk_self : ∀ a : List (List Nat), alk a a = a.length
  | [] => rfl
  | x :: r => by simp [alk, alk_self r]
theorem alk_get : ∀ (a b : List (List Nat)) (i : Nat) (p : List Nat), lexLt b a = false → i ≤ alk a b → a[i]? = some p → ∃ q, b[i]? = some q ∧ (p = q → i + 1 ≤ alk a b) ∧ (p ≠ q → alk a b = i)
  | [], _, i, p, _, _, e => by simp at e
  | x :: r, [], i, p, h, _, _ => by cases h
  | x :: r, y :: t, 0, p, h, hi, e => by
    simp only [List.getElem?_cons_zero, Option.some.injEq] at e
    subst e
    refine ⟨y, rfl, fun q => ?_, fun q => ?_⟩
    · simp only [alk]; rw [if_pos q]; omega
    · simp only [alk]; rw [if_neg q]
  | x :: r, y :: t, i + 1, p, h, hi, e => by
    simp only [alk] at hi
    by_cases q : x = y
    · rw [if_pos q] at hi
      simp only [lexLt] at h
      rw [if_pos q.symm] at h
      obtain ⟨z, h1, h2, h3⟩ := alk_get r t i p h (by omega) (by simpa using e)
      refine ⟨z, by simpa using h1, fun k => ?_, fun k => ?_⟩
      · simp only [alk]; rw [if_pos q]; have := h2 k; omega
      · simp only [alk]; rw [if_pos q, h3 k]
    · rw [if_neg q] at hi; omega
theorem cpref_ok {w : World} {A : Around} {E : Value → Shared → Prop} {s : Shared} {V : Program} {Lo : List Str} {mg mb : Str → Option Value} {Q : Value → Shared → Prop} {M a b : Addr} {us vs : List Value} {as bs : List (List Nat)} {n n1 n2 : Nat}
  (X : (hd.heap_1 w.params).In s.heap) (T : TR V Lo mg mb s.heap) (hdp : A.depth + 20 < recursionLimit) (hu : A.units + 200 < cLine) (hh : A.handled = none)
  (hM : s.heap.get? M = some (listOf [Value.ref a, Value.ref b].toArray n)) (ha : s.heap.get? a = some (listOf us.toArray n1)) (hb : s.heap.get? b = some (listOf vs.toArray n2))
  (hua : Txs us as) (hvb : Txs vs bs) (hz1 : as.length ≤ 1000) (hz2 : bs.length ≤ 1000)
  (h : ∀ h' t' r items k, s.heap.StaysIn h' → h'.get? r = some (listOf (List.toArray items) k) → items.length = alk as bs → Q (.ref r) { s with heap := h', toks := t' }) :
  wpAny (model Pg w) A (call (.ref 101) [.ref M]) Q E s := by
  obtain ⟨hd0, d0, fr0, gu0, un0⟩ := A
  dsimp only at hh hdp hu
  subst hh
  w_on
  refine' enter (K := hd.heap_1 w.params) (args := ⟨[.ref M], []⟩) (binds := [(Str.ofString "m", .ref M)]) X T ?k1 ?k2 ?k3 ?k4 ?k5 ?_ ?k6 ?k7 ?k8 ?k9
  walk_at "my:cases"
  intro L' h₁ F N
  dsimp only [List.reverse, List.reverseAux] at F
  k_fold
  k_steps
  (with_reducible rename Fr _ _ _ _ => kF)
  obtain ⟨x, y, xv, yv, xs, ys, nx, ny, ex, ey, hxg, hyg, hxt, hyt, hlex, halk, hxz, hyz⟩ : ∃ x y xv yv xs ys nx ny, (if lexLt bs as = true then b else a) = x ∧ (if lexLt as bs = true then b else a) = y ∧ s.heap.get? x = some (listOf (List.toArray xv) nx) ∧ s.heap.get? y = some (listOf (List.toArray yv) ny) ∧
      Txs xv xs ∧ Txs yv ys ∧ lexLt ys xs = false ∧ alk xs ys = alk as bs ∧ xs.length ≤ 1000 ∧ ys.length ≤ 1000 := by
    cases h1 : lexLt bs as with
    | true =>
      have h2 := lexLt_asymm _ _ h1
      rw [h2]
      exact ⟨b, a, vs, us, bs, as, n2, n1, rfl, rfl, hb, ha, hvb, hua, h2, alk_comm _ _, hz2, hz1⟩
    | false =>
      cases h2 : lexLt as bs with
      | true => exact ⟨a, b, us, vs, as, bs, n1, n2, rfl, rfl, ha, hb, hua, hvb, h1, rfl, hz1, hz2⟩
      | false =>
        have e := lexLt_eq _ _ h1 h2
        exact ⟨a, a, us, us, as, as, n1, n1, rfl, rfl, ha, ha, hua, hua, by rw [e] at h1; exact h1, by rw [e], hz1, hz1⟩
  unfold Held
  refine min_two rfl (kF.keep _ _ hM) (lexLt bs as) (fun s' Q E st hq => lt_lists hvb hua (st _ _ (kF.keep _ _ hb)) (st _ _ (kF.keep _ _ ha)) (by k_units) hq) ?_
  intro h' k' st
  rw [ex]
  walk_at "my:carry"
  k_steps
  (with_reducible rename Fr _ _ _ _ => kF)
  unfold Held
  refine max_two rfl (kF.keep _ _ hM) (lexLt as bs) (fun s' Q E st hq => gt_lists hvb hua (st _ _ (kF.keep _ _ hb)) (st _ _ (kF.keep _ _ ha)) (by k_units) hq) ?_
  intro h' k' st
  rw [ey]
  walk_at "my:carry"
  k_steps
  (with_reducible rename Fr _ _ _ _ => kF)
  (with_reducible rename News _ _ _ _ => kN)
  refine enum_call kF kN (kF.keep _ _ hxg) ⟨rfl, rfl⟩ ?_
  intro h' e it F1 N1 X1
  clear kF kN
  refine withMap F1 (fun m₀ hm₀ F0 => ?_)
  refine' loop_enum (keep := []) rfl F0 News.nil X1.nil (F0.keep _ _ hxg) (.inl hxg) (frNe F0 hxg)
    (fun i m nx => Keeps [Str.ofString "i", Str.ofString "c"] m m₀ ∧ nx = [] ∧ i ≤ alk xs ys) ?hk ?h0 ?turn ?done
  case hk => intro i m nx _ p hp; cases hp
  case h0 => exact ⟨Keeps.refl, rfl, Nat.zero_le _⟩
  case done =>
    rintro m₁ news₁ h₂ tk₂ ⟨hk, rfl, hi⟩ F2 N2
    obtain ⟨u1, u2, rfl⟩ := mf2u hk
    subst hm₀
    clear F0 F1 N1 X1
    dsimp only
    k_steps
    refine h _ _ x xv nx (Fr.keep (by assumption)) (Fr.keep (by assumption) _ _ hxg) ?_
    have e1 := hxt.length
    have e2 := alk_le xs ys
    omega
  case turn =>
    rintro i v Tt tt m₁ news₁ h₂ tk₂ own hi ⟨hk, rfl, hia⟩ hoff F2 N2 hTt
    obtain ⟨p, tp, rfl, hp⟩ := hxt.get hi
    obtain ⟨q, hq, hq1, hq2⟩ := alk_get xs ys i p hlex hia hp
    obtain ⟨tq, hyi⟩ := hyt.at hq
    have hxl := hxt.length
    have hxz' : xv.length ≤ 1000 := by omega
    have hyi' : yv[((i : Nat) : Int).toNat]? = some (.str (tx q) tq) := by simpa using hyi
    have hib : (i : Int) ≤ 1000 := by
      have := (List.getElem?_eq_some_iff.mp hp).1
      omega
    obtain ⟨u1, u2, rfl⟩ := mf2u hk
    clear hk
    subst hm₀
    clear F0 F1 N1 X1
    dsimp only at F2 ⊢
    by_cases hpq : p = q
    · have hi1 := hq1 hpq
      subst hpq
      have hc1 : (p != p) = false := by simp
      k_steps
      refine' MyTurnEnd.intro (by assumption) (by assumption) (fun p hp => hp) .nil ⟨keeps2 ?jA0, rfl, hi1⟩
      case jA0 => intro z h1 h2; simp only [if_neg h1, if_neg h2]
    · have hc1 : (p != q) = true := by simpa using hpq
      k_steps
      (with_reducible rename News _ _ _ _ => N')
      refine h _ _ _ _ _ (Fr.keep (by assumption)) (N' _ (.head _)).1 ?_
      have e1 := hq2 hpq
      have e2 := (List.getElem?_eq_some_iff.mp hp).1
      simp only [List.length_take]
      omega

section
variable {prog : Program} {w : World} {A : Around} {E : Value → Shared → Prop} {s : Shared} {h₀ : Heap} {L : Addr} {m : Str → Option Value} {news : List (Addr × Obj)} {Q : Value → Shared → Prop} {D D2 : Addr} {us vs : List Value} {n n2 : Nat}
theorem my_len (hg : s.heap.get? D = some (listOf us.toArray n)) (hz : us.length ≤ 100000) (h : ∀ t k, Q (.int (us.length : Nat) t) { s with toks := k }) : wpAny (model prog w) A (call (.builtin "len") [.ref D]) Q E s := by
  refine PyProof.Rows.len_list ⟨_, hg, rfl, n, rfl⟩ (by rw [List.size_toArray]; omega) ?_
  rw [List.size_toArray]; exact h _ _
theorem my_add (F : Fr h₀ L s.heap m) (N : News h₀ L s.heap news) (hg : s.heap.get? D = some (listOf us.toArray n)) (hg2 : s.heap.get? D2 = some (listOf vs.toArray n2)) (hz : us.length + vs.length ≤ 100000)
    (h : ∀ B h', Fr h₀ L h' m → News h₀ L h' ((B, listOf (us ++ vs).toArray 0) :: news) → (∀ p ∈ news, p.1 < B) → Q (.ref B) { s with heap := h' }) : wpAny (model prog w) A (binaryOp .Add (.ref D) (.ref D2)) Q E s :=
  add_lists (hsz := by rw [sizeLine_eq]; omega) F N ⟨_, hg, rfl, n, rfl⟩ ⟨_, hg2, rfl, n2, rfl⟩ fun h' F' N' => h _ h' F' N' fun p hp => Heap.lt_size (N p hp).1
theorem my_mul {v : Value} {x : Int} {u : Tok} (F : Fr h₀ L s.heap m) (N : News h₀ L s.heap news) (hg : s.heap.get? D = some (listOf [v].toArray n)) (hlo : -1000000 ≤ x) (hhi : x ≤ 100000)
    (h : ∀ B h', Fr h₀ L h' m → News h₀ L h' ((B, listOf (List.replicate x.toNat v).toArray 0) :: news) → (∀ p ∈ news, p.1 < B) → Q (.ref B) { s with heap := h' }) : wpAny (model prog w) A (binaryOp .Mult (.ref D) (.int x u)) Q E s := by
  have rep : ∀ (k : Nat) (acc : List Value), (List.replicate k [v].toArray).foldl (fun (x1 x2 : Array Value) => x1 ++ x2) acc.toArray = (acc ++ List.replicate k v).toArray := by
    intro k
    induction k with
    | zero => intro acc; simp
    | succ k ih =>
      intro acc
      rw [List.replicate_succ, List.foldl_cons]
      have e : acc.toArray ++ [v].toArray = (acc ++ [v]).toArray := by simp
      rw [e, ih, List.replicate_succ]
      simp
  refine mul_list F N hg (by omega) (by omega) ?_ ?_
  · show 1 * x.toNat ≤ 2 ^ 24
    omega
  · intro h' F' N'
    have e := rep x.toNat []
    have e0 : (if [v].toArray.isEmpty = true then 0 else x.toNat) = x.toNat := by simp
    rw [e0] at N'
    have e1 : ([] : List Value).toArray = #[] := rfl
    rw [e1, List.nil_append] at e
    rw [e] at N'
    exact h _ h' F' N' fun p hp => Heap.lt_size (N p hp).1
theorem lstrip_ok {x cs z : List Nat} {t u : Tok} {y : Str} (hy : y = tx cs) (hz : (tx x).length ≤ 100000) (he : x.dropWhile (fun c => cs.contains c) = z) (h : ∀ t' k, Q (.str (tx z) t') { s with toks := k }) :
    wpAny (model prog w) A (call (.builtin "str.lstrip") [.str (tx x) t, .str y u]) Q E s := by
  subst hy
  refine SC.lstripChars (fun t' k => ?_) (by rw [sizeLine_eq]; omega)
  rw [lstrip_is, he]; exact h t' k
theorem drop_slash {l : List Nat} (h : l.head? ≠ some 47) : (47 :: l).dropWhile (fun c => [47].contains c) = l := by
  cases l with
  | nil => rfl
  | cons a r =>
    have ha : a ≠ 47 := fun e => h (by rw [e]; rfl)
    simp [ha]
end
theorem way_len {v u a : Nat} (h1 : v ≤ 1000) (h2 : u ≤ 1000) : ((v : Int) - (a : Int)).toNat + (u - ((a : Int)).toNat) ≤ 100000 := by omega
local macro_rules | `(tactic| walk_at "call builtin:str.lstrip") => `(tactic| (k_here; (with_reducible show wpAny _ _ (call (Value.builtin "str.lstrip") [Value.str (tx _) _, Value.str _ _]) _ _ _); (refine' lstrip_ok ?y ?z ?e ?_; (case y => first | exact lit_slash | exact lit_sp | exact lit_ab); (case z => first | assumption | omega | walk_at "my:len"); (case e => assumption)); intro _ _))
local macro_rules | `(tactic| walk_at "call builtin:len") => `(tactic| (k_here; (with_reducible show wpAny _ _ (call (Value.builtin "len") [Value.ref _]) _ _ _); k_dflt (refine' my_len ?g ?z ?_; (case g => first | with_reducible assumption | walk_at "my:get"); (case z => first | assumption | omega | exact Nat.le_of_ble_eq_true rfl); k_whole); intro _ _))
local macro_rules | `(tactic| walk_at "binaryOp Add ref ref") => `(tactic| (k_here; k_dflt (refine' my_add ?F ?N ?g ?g2 ?z ?_; walk_at "my:FN"; (case g => walk_at "my:get"); (case g2 => walk_at "my:get"); (case z => first | assumption | omega | ((try simp only [List.length_append, List.length_replicate, List.length_drop, List.length_take, List.length_cons, List.length_nil]); first | exact way_len (by omega) (by omega) | omega)); k_whole); intro D' h' F' N' l1; (try k_lt l1); (try k_sweep)))
local macro_rules | `(tactic| walk_at "binaryOp Mult ref int") => `(tactic| (k_here; k_dflt (refine' my_mul ?F ?N ?g ?a ?b ?_; walk_at "my:FN"; (case g => walk_at "my:get"); (case a => omega); (case b => omega); k_whole); intro D' h' F' N' l1; (try k_lt l1); (try k_sweep)))
local macro_rules | `(tactic| walk_at "call builtin:str.split") => `(tactic| (k_here; (with_reducible show wpAny _ _ (call (Value.builtin "str.split") [Value.str (tx (jn 47 _)) _, Value.str _ _]) _ _ _); k_dflt (refine' split_ok ?F ?N ?y ?x ?ne ?f ?z ?_; walk_at "my:FN"; (case y => exact lit_slash); (case x => exact rfl); (case ne => assumption); (case f => assumption); (case z => first | assumption | omega | walk_at "my:len"); k_whole); intro _ _ _ _ _ _ F' N' l1; (try k_lt l1); (try k_sweep)))

/-- a text that is cut, or no text and no parts -/
def Cut (ps : List (List Nat)) : Prop := (∀ p ∈ ps, Part p) ∧ (tx (jn 47 ps)).length ≤ 1000
theorem Cut.two {ps : List (List Nat)} (h : Cut ps) : (ps = [] ∧ (jn 47 ps).isEmpty = true) ∨ (ps ≠ [] ∧ (jn 47 ps).isEmpty = false ∧ (∀ p ∈ ps, 47 ∉ p) ∧ (tx (jn 47 ps)).length ≤ 1000) := by
  by_cases he : ps = []
  · exact .inl ⟨he, by rw [he]; rfl⟩
  · refine .inr ⟨he, ?_, fun p hp => (h.1 p hp).2, h.2⟩
    rw [List.isEmpty_eq_false_iff]; exact fun e => he ((jn_nil_iff fun p hp => (h.1 p hp).1).mp e)
def CutPost (s : Shared) (h₀ : Heap) (L : Addr) (m : Str → Option Value) (news : List (Addr × Obj)) (ps : List (List Nat)) : Value → Shared → Prop := fun v s₂ =>
  ∃ D vs h' k, v = .ref D ∧ Txs vs ps ∧ vs.length = ps.length ∧ Fr h₀ L h' m ∧ News h₀ L h' ((D, listOf vs.toArray 0) :: news) ∧ (∀ p ∈ news, p.1 < D) ∧ s₂ = { s with heap := h', toks := k }
def HoldT : Prop := True
theorem ifCut {prog : Program} {w : World} {A : Around} {E : Value → Shared → Prop} {s : Shared} {h₀ : Heap} {L : Addr} {m : Str → Option Value} {news : List (Addr × Obj)} {Q : Value → Shared → Prop} {ps : List (List Nat)} {t : Sem Value} (_hc : Cut ps)
    (_F : Fr h₀ L s.heap m) (_N : News h₀ L s.heap news)
    (h1 : wpAny (model prog w) A t (CutPost s h₀ L m news ps) E s)
    (h2 : ∀ D vs h' k, Txs vs ps → vs.length = ps.length → Fr h₀ L h' m → News h₀ L h' ((D, listOf vs.toArray 0) :: news) → (∀ p ∈ news, p.1 < D) → Q (.ref D) { s with heap := h', toks := k }) : wpAny (model prog w) A t Q E s := by
  refine wpAny_mono h1 (fun v s₂ hq => ?_) fun _ _ x => x
  obtain ⟨D, vs, h', k, rfl, a, b, c, d, e, rfl⟩ := hq
  exact h2 D vs h' k a b c d e
local macro_rules | `(tactic| walk_at "eval IfExp") => `(tactic| (k_here; (with_reducible rename Cut _ => hcut); refine held ?_))
local macro_rules | `(tactic| walk_at "truthy ref") => `(tactic| (k_here; (with_reducible rename HoldT => hmark); (with_reducible show wpAny _ _ (truthy (Value.ref _)) _ _ _); refine held ?_))
theorem nrm_id : ∀ {cs : List (List Nat)} (acc : List (List Nat)), (∀ p ∈ cs, p ≠ [46, 46]) → cs.foldl nrmStep acc = acc ++ cs
  | [], acc, _ => by simp
  | c :: r, acc, h => by
    rw [List.foldl_cons]
    have e : nrmStep acc c = acc ++ [c] := by unfold nrmStep; rw [if_neg (h c (by simp))]
    rw [e, nrm_id (acc ++ [c]) (fun p hp => h p (List.mem_cons_of_mem _ hp))]
    simp
/-- a name: a part, and no dot nor two -/
def Nm (p : List Nat) : Prop := Part p ∧ p ≠ [46] ∧ p ≠ [46, 46]
/-- the way from one place to the other -/
def wayL (row there : List (List Nat)) : List (List Nat) := List.replicate (there.length - alk there row) [46, 46] ++ row.drop (alk there row)
def wayT (row there : List (List Nat)) : List Nat := if wayL row there = [] then [46] else jn 47 (wayL row there)
theorem Txs.emp {vs : List Value} {ps : List (List Nat)} (h : Txs vs ps) (e : ps = []) : vs.isEmpty = true := by
  have := h.length; rw [e] at this; exact List.isEmpty_iff.mpr (List.eq_nil_of_length_eq_zero this)
theorem Txs.full {vs : List Value} {ps : List (List Nat)} (h : Txs vs ps) (e : ps ≠ []) : vs.isEmpty = false := by
  have := h.length
  rw [List.isEmpty_eq_false_iff]
  intro e2; rw [e2] at this; exact e (List.eq_nil_of_length_eq_zero this.symm)
theorem wayTxs {row there : List (List Nat)} {vs us items : List Value} {t : Tok} {y : Str} (hy : y = tx [46, 46]) (hT : Txs us row) (hl : vs.length = there.length) (hi : items.length = alk there row) :
    Txs (List.replicate ((vs.length : Int) - (items.length : Int)).toNat (Value.str y t) ++ List.drop ((items.length : Int)).toNat us.toArray.toList) (wayL row there) := by
  subst hy
  have e1 : ((vs.length : Int) - (items.length : Int)).toNat = there.length - alk there row := by omega
  have e2 : ((items.length : Int)).toNat = alk there row := by omega
  rw [e1, e2]
  exact (Txs.rep _).app (hT.drop _)
theorem relpath_ok {w : World} {A : Around} {E : Value → Shared → Prop} {s : Shared} {V : Program} {Lo : List Str} {mg mb : Str → Option Value} {Q : Value → Shared → Prop} {row there : List (List Nat)} {t u : Tok}
  (X : (hd.heap_1 w.params).In s.heap) (T : TR V Lo mg mb s.heap) (hdp : A.depth + 40 < recursionLimit) (hu : A.units + 300 < cLine) (hh : A.handled = none)
  (hrow : ∀ p ∈ row, Nm p) (hthere : ∀ p ∈ there, Nm p) (hz1 : (tx (47 :: jn 47 row)).length ≤ 1000) (hz2 : (tx (47 :: jn 47 there)).length ≤ 1000) (hz3 : (jn 47 (wayL row there)).length ≤ 1000)
  (h : ∀ h' t' u, s.heap.StaysIn h' → Q (.str (tx (wayT row there)) u) { s with heap := h', toks := t' }) :
  wpAny (model Pg w) A (call (.ref 151) [.str (tx (47 :: jn 47 row)) t, .str (tx (47 :: jn 47 there)) u]) Q E s := by
  obtain ⟨hd0, d0, fr0, gu0, un0⟩ := A
  dsimp only at hh hdp hu
  subst hh
  w_on
  have hc1 : ∀ p ∈ row, Part p ∧ p ≠ [46] := fun p hp => ⟨(hrow p hp).1, (hrow p hp).2.1⟩
  have hc2 : ∀ p ∈ there, Part p ∧ p ≠ [46] := fun p hp => ⟨(hthere p hp).1, (hthere p hp).2.1⟩
  have hn1 : nrm row = row := (nrm_id [] (fun p hp => (hrow p hp).2.2)).trans (List.nil_append _)
  have hn2 : nrm there = there := (nrm_id [] (fun p hp => (hthere p hp).2.2)).trans (List.nil_append _)
  have hd1 : (47 :: jn 47 row).dropWhile (fun c => [47].contains c) = jn 47 row := drop_slash (jn_head fun p hp => (hrow p hp).1)
  have hd2 : (47 :: jn 47 there).dropWhile (fun c => [47].contains c) = jn 47 there := drop_slash (jn_head fun p hp => (hthere p hp).1)
  have hf1 : ∀ p ∈ row, 47 ∉ p := fun p hp => (hrow p hp).1.2
  have hf2 : ∀ p ∈ there, 47 ∉ p := fun p hp => (hthere p hp).1.2
  have hl1 : row.length ≤ 1000 := by
    have := jn_len (c := 47) (ps := row) (fun p hp => (hrow p hp).1.1)
    simp only [tx_len, List.length_cons] at hz1; omega
  have hl2 : there.length ≤ 1000 := by
    have := jn_len (c := 47) (ps := there) (fun p hp => (hthere p hp).1.1)
    simp only [tx_len, List.length_cons] at hz2; omega
  have hzj1 : (tx (jn 47 row)).length ≤ 1000 := by simp only [tx_len, List.length_cons] at hz1 ⊢; omega
  have hzj2 : (tx (jn 47 there)).length ≤ 1000 := by simp only [tx_len, List.length_cons] at hz2 ⊢; omega
  have hk1 := alk_le there row
  have hk2 := alk_le row there
  rw [alk_comm] at hk2
  have htn : Txs [] [] := .nil
  refine' enter (K := hd.heap_1 w.params) (args := ⟨[.str (tx (47 :: jn 47 row)) t, .str (tx (47 :: jn 47 there)) u], []⟩) (binds := [(Str.ofString "path", .str (tx (47 :: jn 47 row)) t), (Str.ofString "start", .str (tx (47 :: jn 47 there)) u)]) X T ?k1 ?k2 ?k3 ?k4 ?k5 ?_ ?k6 ?k7 ?k8 ?k9
  case k1 => k_is
  case k2 => k_is
  case k3 => k_room
  case k4 => exact binds_K X rfl (by k_is) rfl rfl rfl
  case k5 => exact locs rfl
  case k6 => exact rfl
  case k7 => exact rfl
  case k8 => exact rfl
  case k9 => decide
  intro L' h₁ F N
  dsimp only [List.reverse, List.reverseAux] at F
  k_fold
  have hmk : HoldT := True.intro
  have hq2 : Cut row := ⟨fun p hp => (hrow p hp).1, hzj1⟩
  have hq1 : Cut there := ⟨fun p hp => (hthere p hp).1, hzj2⟩
  clear hrow hthere
  k_steps
  unfold Held
  refine' abspath_ok ?sX ?sT ?sd ?su ?qhh3 ?qc3 ?qz3 ?qn3 ?_
  walk_at "my:site"
  case qhh3 => first | rfl | assumption
  case qc3 => assumption
  case qz3 => assumption
  case qn3 => first | assumption | rfl
  intro _ _ _ _
  walk_at "my:carry"
  k_steps
  unfold Held
  refine' abspath_ok ?sX ?sT ?sd ?su ?qhh4 ?qc4 ?qz4 ?qn4 ?_
  walk_at "my:site"
  case qhh4 => first | rfl | assumption
  case qc4 => assumption
  case qz4 => assumption
  case qn4 => first | assumption | rfl
  intro _ _ _ _
  walk_at "my:carry"
  k_steps
  unfold Held
  (with_reducible rename Cut _ => hcut)
  refine' ifCut hcut ?qF5 ?qN5 ?qa5 ?_
  case qF5 => k_asm
  case qN5 => k_asm
  case qa5 =>
    refine' IfExp_ ?_
    rcases hcut.two with ⟨he, hb⟩ | ⟨he, hb, hf, hz⟩
    · k_steps
      exact ⟨_, [], _, _, rfl, (by rw [he]; exact .nil), (by rw [he]; rfl), (by assumption), (by assumption), (by first | assumption | (intro p hp; cases hp; done) | (intro p hp; rw [List.mem_singleton.mp hp]; assumption)), rfl⟩
    · k_steps
      exact ⟨_, _, _, _, rfl, (by assumption), (by assumption), (by assumption), (by assumption), (by first | assumption | (intro p hp; cases hp; done) | (intro p hp; rw [List.mem_singleton.mp hp]; assumption)), rfl⟩
  clear hcut
  intro _ _ _ _ _ _ F' N' l1
  try k_lt l1
  try k_sweep
  k_steps
  unfold Held
  (with_reducible rename Cut _ => hcut)
  refine' ifCut hcut ?qF6 ?qN6 ?qa6 ?_
  case qF6 => k_asm
  case qN6 => k_asm
  case qa6 =>
    refine' IfExp_ ?_
    rcases hcut.two with ⟨he, hb⟩ | ⟨he, hb, hf, hz⟩
    · k_steps
      exact ⟨_, [], _, _, rfl, (by rw [he]; exact .nil), (by rw [he]; rfl), (by assumption), (by assumption), (by first | assumption | (intro p hp; cases hp; done) | (intro p hp; rw [List.mem_singleton.mp hp]; assumption)), rfl⟩
    · k_steps
      exact ⟨_, _, _, _, rfl, (by assumption), (by assumption), (by assumption), (by assumption), (by first | assumption | (intro p hp; cases hp; done) | (intro p hp; rw [List.mem_singleton.mp hp]; assumption)), rfl⟩
  clear hcut
  intro _ _ _ _ _ _ F' N' l1
  try k_lt l1
  try k_sweep
  k_steps
  unfold Held
  k_dflt (refine' cpref_ok ?sX ?sT ?sd ?su ?qhh7 ?qM7 ?qa7 ?qb7 ?qta7 ?qtb7 ?qz17 ?qz27 ?_; walk_at "my:site"; (case qhh7 => first | rfl | assumption); (case qM7 => walk_at "my:get"); (case qa7 => walk_at "my:get"); (case qb7 => walk_at "my:get"); (case qta7 => assumption); (case qtb7 => assumption); (case qz17 => assumption); (case qz27 => assumption); k_whole)
  intro _ _ _ _ _ _ hrg hrz
  walk_at "my:carry"
  k_steps
  unfold Held
  refine' my_truthyB (us := ?jl) ?jg ?jz ?_
  case jg => walk_at "my:get"
  case jz =>
    simp only [List.length_append, List.length_replicate, List.length_drop]
    first | exact way_len (by omega) (by omega) | omega
  rename Txs _ row => tv
  rename List.length _ = List.length there => tl
  rename List.length _ = alk there row => ti
  have hT := fun t : Tok => wayTxs (t := t) lit_dd tv tl ti
  intro _
  by_cases hw : wayL row there = []
  · have hb := fun t => (hT t).emp hw
    have hwt : wayT row there = [46] := if_pos hw
    simp only [hb, Bool.not_true, Bool.not_false, Bool.false_eq_true, if_true, if_false]
    k_steps
    rw [hwt, ← lit_dot] at h
    exact h _ _ _ (Fr.keep (by assumption))
  · have hb := fun t => (hT t).full hw
    have hwt : wayT row there = jn 47 (wayL row there) := if_neg hw
    simp only [hb, Bool.not_true, Bool.not_false, Bool.false_eq_true, if_true, if_false]
    k_steps
    refine' strjoin_ok ?jh lit_slash (hT _) ?jz3 ?jl3 ?_
    case jh => walk_at "my:get"
    case jz3 => rw [tx_len]; omega
    case jl3 =>
      have := (hT 0).length
      simp only [List.length_append, List.length_replicate, List.length_drop] at this
      first | (rw [← this]; exact way_len (by omega) (by omega)) | omega
    intro _ _
    k_steps
    rw [← hwt]
    exact h _ _ _ (Fr.keep (by assumption))

section
theorem owner_map : Manifest.owners.lookup (String.ofList ['p', 'a', 'm'].reverse) = some Manifest.sig_map := by kernel_rfl
theorem slot_map_next : Slot "map" "__next__" "map.__next__" :=
  .of (owner := "map") (n := "__next__") (by rw [typeLookup_type, builtinLookup_eq_fast]; kernel_rfl) (by decide +kernel) (by decide +kernel) (by decide +kernel)
    (by first | exact .inl (by decide +kernel) | exact .inr (by decide +kernel)) (by rw [isSubtype_type]; kernel_rfl)
theorem slot_map_iter : Slot "map" "__iter__" "map.__iter__" :=
  .of (owner := "map") (n := "__iter__") (by rw [typeLookup_type, builtinLookup_eq_fast]; kernel_rfl) (by decide +kernel) (by decide +kernel) (by decide +kernel)
    (by first | exact .inl (by decide +kernel) | exact .inr (by decide +kernel)) (by rw [isSubtype_type]; kernel_rfl)
theorem slot_map_init : Slot "map" "__init__" "object.__init__" :=
  .of (owner := "object") (n := "__init__") (by rw [typeLookup_type, builtinLookup_eq_fast]; kernel_rfl) (by decide +kernel) (by decide +kernel) (by decide +kernel)
    (by first | exact .inl (by decide +kernel) | exact .inr (by decide +kernel)) (by rw [isSubtype_type]; kernel_rfl)
theorem entry_map_next : entryFor table "map.__next__" = some Builtin.«map.__next__» := entryFor_of_tree (by kernel_rfl)
theorem entry_map_iter : entryFor table "map.__iter__" = some Builtin.«dict_keyiterator.__iter__» :=
  entryFor_alias (id' := "dict_keyiterator.__iter__") (by kernel_rfl) (by first | rfl | decide +kernel | (unfold String.splitOn; simp +decide [String.splitOnAux])) (by decide +kernel) (by kernel_rfl)
theorem mro_map : mroOf (.type "map") = pure [.type "map", .type "object"] := by rw [mroOf_type]; kernel_rfl
theorem lookup_map_new : typeLookup (.type "map") "__new__" = pure (some (.builtin "map.__new__")) := by rw [typeLookup_type, builtinLookup_eq_fast]; kernel_rfl
theorem entry_map_new : entryFor table "map.__new__" = some Builtin.«map.__new__» := entryFor_of_tree (by kernel_rfl)
theorem args_map_next (a : Value) : argsOk "map.__next__" ⟨[a], []⟩ := by
  unfold argsOk; rw [signature?_of (id := "map.__next__") (n := ['_', '_', 't', 'x', 'e', 'n', '_', '_']) (o := ['p', 'a', 'm']) (by kernel_rfl) owner_map]; kernel_rfl
theorem args_map_iter (a : Value) : argsOk "map.__iter__" ⟨[a], []⟩ := by
  unfold argsOk; rw [signature?_of (id := "map.__iter__") (n := ['_', '_', 'r', 'e', 't', 'i', '_', '_']) (o := ['p', 'a', 'm']) (by kernel_rfl) owner_map]; kernel_rfl
theorem map_no_len : typeLookup (.type "map") "__len__" = pure none := by rw [typeLookup_type, builtinLookup_eq_fast]; kernel_rfl
theorem map_no_hint : typeLookup (.type "map") "__length_hint__" = pure none := by rw [typeLookup_type, builtinLookup_eq_fast]; kernel_rfl
theorem sub_map : isSubtype (.type "map") (.type "map") = pure true := by rw [isSubtype_type]; kernel_rfl
theorem called_map : TypeCalled "map" "map.__new__" "object.__init__" :=
  ⟨by decide +kernel, by decide +kernel, ⟨_, _, mro_map⟩, madeBy_type mro_map lookup_map_new (by decide +kernel), by decide +kernel, by rw [isSubtype_type]; kernel_rfl, slot_map_init⟩
theorem typeCall_map (a b : Value) : checkTypeCall "map" ⟨[a, b], []⟩ = pure () := by kernel_rfl
theorem newCall_map (a b : Value) : checkBuiltinCall "map.__new__" ⟨[.type "map", a, b], []⟩ = pure () := by kernel_rfl
theorem meets_map_new (f l : Addr) (xs : Array Value) :
    Meets (Builtin.«map.__new__» ⟨[.type "map", .ref f, .ref l], []⟩) (fun _ R s => s.heap.IsList l xs ∧
      R (.ok (.ret (.ref ((s.heap.push { cls := .type "list_iterator", data := .fields #[.ref l, .int 0 0] }).push { cls := .type "tuple", data := .seq #[.ref s.heap.objs.size] }).objs.size)))
        { s with heap := ((s.heap.push { cls := .type "list_iterator", data := .fields #[.ref l, .int 0 0] }).push { cls := .type "tuple", data := .seq #[.ref s.heap.objs.size] }).push { cls := .type "map", data := .fields #[.ref (s.heap.push { cls := .type "list_iterator", data := .fields #[.ref l, .int 0 0] }).objs.size, .ref f] } }) :=
  .of_wp fun prog w A R s h => by
    obtain ⟨hp, g, d, tk, os⟩ := s; obtain ⟨hl1, h⟩ := h
    have hsub := sub_map
    have hL1 : Heap.IsList (Shared.heap ⟨hp, g, d, tk, os⟩) l xs := hl1
    wp_walk using wpAny_pyIter_list hL1
    exact ⟨_, rfl, h⟩

variable {prog : Program} {w : World} {A : Around} {E : Value → Shared → Prop} {s : Shared}
abbrev IsMap (h : Heap) (M T f : Addr) : Prop := h.get? M = some { cls := .type "map", dict := none, data := .fields #[.ref T, .ref f], slots := #[] }
theorem call_map {f l : Addr} {xs : Array Value} {Q : Value → Shared → Prop} (hl : s.heap.IsList l xs)
    (h : ∀ h' I T M, IsMap h' M T f → h'.get? T = some { cls := .type "tuple", data := .seq #[.ref I] } → h'.IsListIter I l 0 → s.heap.objs.size ≤ I → I ≠ T → I ≠ M → T ≠ M → s.heap.objs.size ≤ M → s.heap.StaysIn h' → Q (.ref M) { s with heap := h' }) :
    wpAny (model prog w) A (call (.type "map") [.ref f, .ref l]) Q E s := by
  refine callType_new called_map (by decide) (typeCall_map _ _) (newCall_map _ _) (fun obj => F.args_object_init_3 obj _ _) entry_map_new
    (meets_map_new f l xs) ⟨hl, ?_⟩
  have z1 : (s.heap.push { cls := .type "list_iterator", data := .fields #[.ref l, .int 0 0] }).objs.size = s.heap.objs.size + 1 := Heap.size_push ..
  have g1 : (s.heap.push { cls := .type "list_iterator", data := .fields #[.ref l, .int 0 0] }).get? s.heap.objs.size = some { cls := .type "list_iterator", data := .fields #[.ref l, .int 0 0] } := Heap.get?_push_size _ rfl
  have k1 : s.heap.StaysIn (s.heap.push { cls := .type "list_iterator", data := .fields #[.ref l, .int 0 0] }) := fun d o e => Heap.get?_push_of_some _ e
  revert z1 g1 k1
  generalize s.heap.push { cls := .type "list_iterator", data := .fields #[.ref l, .int 0 0] } = h1
  intro z1 g1 k1
  have z2 : (h1.push { cls := .type "tuple", data := .seq #[.ref s.heap.objs.size] }).objs.size = h1.objs.size + 1 := Heap.size_push ..
  have g2 : (h1.push { cls := .type "tuple", data := .seq #[.ref s.heap.objs.size] }).get? h1.objs.size = some { cls := .type "tuple", data := .seq #[.ref s.heap.objs.size] } := Heap.get?_push_size _ rfl
  have k2 : h1.StaysIn (h1.push { cls := .type "tuple", data := .seq #[.ref s.heap.objs.size] }) := fun d o e => Heap.get?_push_of_some _ e
  revert z2 g2 k2
  generalize h1.push { cls := .type "tuple", data := .seq #[.ref s.heap.objs.size] } = h2
  intro z2 g2 k2
  have g3 : (h2.push { cls := .type "map", data := .fields #[.ref h1.objs.size, .ref f] }).get? h2.objs.size = some { cls := .type "map", data := .fields #[.ref h1.objs.size, .ref f] } := Heap.get?_push_size _ rfl
  have k3 : h2.StaysIn (h2.push { cls := .type "map", data := .fields #[.ref h1.objs.size, .ref f] }) := fun d o e => Heap.get?_push_of_some _ e
  refine ⟨⟨_, g3, rfl⟩, ?_⟩
  refine h _ s.heap.objs.size h1.objs.size h2.objs.size g3 (k3 _ _ g2) ⟨_, k3 _ _ (k2 _ _ g1), rfl, rfl⟩ (Nat.le_refl _) (Nat.ne_of_lt (by omega)) (Nat.ne_of_lt (by omega)) (Nat.ne_of_lt (by omega)) (by omega) fun d o e => k3 _ _ (k2 _ _ (k1 _ _ e))
theorem pyIter_map {M T f : Addr} {Q : Value → Shared → Prop} (hM : IsMap s.heap M T f) (h : Q (.ref M) s) : wpAny (model prog w) A (pyIter (.ref M)) Q E s := by
  have hT : s.TypeIs (.ref M) "map" := ⟨_, hM, rfl⟩
  refine wpAny_pyIter_slot hT slot_map_iter (wpAny_call_entry slot_map_iter hT entry_map_iter ?_ (args_map_iter _))
  show wpAny _ _ (ret (.ref M)) _ _ s
  exact wpAny_pure ⟨_, rfl, "map", _, hT, slot_map_next.lookup, h⟩
theorem pyNext_map_item {M T f I l : Addr} {i : Nat} {items : Array Value} {x : Value} {Q : Option Value → Shared → Prop} (hM : IsMap s.heap M T f) (hTg : s.heap.get? T = some { cls := .type "tuple", data := .seq #[.ref I] })
    (hit : s.heap.IsListIter I l i) (hl : s.heap.IsList l items) (hx : items[i]? = some x) (hIM : I ≠ M)
    (hcall : ∀ h' Q', h'.IsListIter I l (i + 1) → Heap.SameBut I s.heap h' → (∀ h'' tk, h'.StaysIn h'' → Q' x { s with heap := h'', toks := tk }) → wpAny (model prog w) A.in1 (call (.ref f) [x]) Q' (fun _ _ => False) { s with heap := h' })
    (hQ : ∀ h' h'' tk, h'.IsListIter I l (i + 1) → Heap.SameBut I s.heap h' → h'.StaysIn h'' → Q (some x) { s with heap := h'', toks := tk }) :
    wpAny (model prog w) A (pyNext (.ref M)) Q E s := by
  have hT : s.TypeIs (.ref M) "map" := ⟨_, hM, rfl⟩
  unfold pyNext
  refine wpAny_bind (wpAny_attempt (wpAny_callSpecial?_slot (name := Str.ofString "__next__") hT slot_map_next
    (wpAny_call_entry slot_map_next hT entry_map_next ?_ (args_map_next _))))
  show wpAny _ _ (field (.ref M) 0 >>= _) _ _ _
  refine wpAny_bind (wpAny_field hM rfl (x := .ref T) rfl ?_)
  show wpAny _ _ (seqItems? (.ref T) >>= _) _ _ _
  refine wpAny_bind (wpAny_seqItems hTg rfl ?_)
  simp only [← Array.forIn_toList, List.forIn_cons, List.forIn_nil]
  refine wpAny_bind (wpAny_bind (wpAny_bind (wpAny_holding (wpAny_nextOf_list_item hit hl hx fun h₁ hit₁ hs₁ => ?_))))
  have hM₁ : IsMap h₁ M T f := (hs₁.2 M (Ne.symm hIM)).trans hM
  refine wpAny_pure ?_
  refine wpAny_pure ?_
  show wpAny _ _ (field (.ref M) 1 >>= _) _ _ _
  refine wpAny_bind (wpAny_field hM₁ rfl (x := .ref f) rfl ?_)
  refine wpAny_bind (wpAny_holding ?_)
  refine wpAny_mono (hcall h₁ (fun v s' => v = x ∧ ∃ h'' tk, h₁.StaysIn h'' ∧ s' = { s with heap := h'', toks := tk }) hit₁ hs₁ fun h'' tk st => ⟨rfl, _, _, st, rfl⟩) (fun v s' hv => ?_) fun _ _ e => e.elim
  obtain ⟨rfl, h'', tk, st, rfl⟩ := hv
  refine wpAny_bind (wpAny_letGo ?_)
  refine wpAny_pure ⟨_, rfl, ?_⟩
  exact wpAny_pure (hQ _ _ _ hit₁ hs₁ st)
theorem pyNext_map_end {M T f I l : Addr} {i : Nat} {items : Array Value} {Q : Option Value → Shared → Prop} (hh : A.handled = none) (hM : IsMap s.heap M T f) (hTg : s.heap.get? T = some { cls := .type "tuple", data := .seq #[.ref I] })
    (hit : s.heap.IsListIter I l i) (hl : s.heap.IsList l items) (hx : items[i]? = none)
    (hQ : ∀ h', Heap.ExtBut I s.heap h' → Q none { s with heap := h' }) :
    wpAny (model prog w) A (pyNext (.ref M)) Q E s := by
  have hT : s.TypeIs (.ref M) "map" := ⟨_, hM, rfl⟩
  unfold pyNext
  refine wpAny_bind (wpAny_attempt (wpAny_callSpecial?_slot (name := Str.ofString "__next__") hT slot_map_next
    (wpAny_call_entry slot_map_next hT entry_map_next ?_ (args_map_next _))))
  show wpAny _ _ (field (.ref M) 0 >>= _) _ _ _
  refine wpAny_bind (wpAny_field hM rfl (x := .ref T) rfl ?_)
  show wpAny _ _ (seqItems? (.ref T) >>= _) _ _ _
  refine wpAny_bind (wpAny_seqItems hTg rfl ?_)
  simp only [← Array.forIn_toList, List.forIn_cons, List.forIn_nil]
  refine wpAny_bind (wpAny_bind (wpAny_bind (wpAny_holding (wpAny_nextOf_list_end hh hit hl hx fun h' e hE he => ?_))))
  obtain ⟨o, ho, hc⟩ := he
  refine wpAny_bind (wpAny_isInstance (T := "StopIteration") (b := true) ⟨o, ho, hc⟩ isSubtype_stop ?_)
  exact wpAny_pure (hQ _ hE)
/-- the list that 'collect' makes of a map over two -/
theorem collect_map {M T f I l : Addr} {a b : Value} {R : Result → Shared → Prop} (hh : A.handled = none) (hM : IsMap s.heap M T f) (hTg : s.heap.get? T = some { cls := .type "tuple", data := .seq #[.ref I] })
    (hit : s.heap.IsListIter I l 0) (hl : s.heap.IsList l #[a, b]) (hIM : I ≠ M) (hIT : I ≠ T) (hIl : I ≠ l)
    (hcall : ∀ (s' : Shared) x Q', (x = a ∨ x = b) → (∀ d o, d ≠ I → s.heap.get? d = some o → s'.heap.get? d = some o) → (∀ h'' tk, s'.heap.StaysIn h'' → Q' x { s' with heap := h'', toks := tk }) → wpAny (model prog w) A.in1.in1 (call (.ref f) [x]) Q' (fun _ _ => False) s')
    (hR : ∀ S n h'' tk, h''.get? S = some { cls := .type "list", data := .seq #[a, b] n } → (∀ d o, d ≠ I → s.heap.get? d = some o → h''.get? d = some o) → R (.ok (.ret (.ref S))) { s with heap := h'', toks := tk }) :
    codeAny (model prog w) A (.builtin "proto.collect" ⟨[.ref M], []⟩) R s := by
  have hMs : M < s.heap.objs.size := Heap.lt_size hM
  have hTs : T < s.heap.objs.size := Heap.lt_size hTg
  have hT₀ : s.TypeIs (.ref M) "map" := ⟨_, hM, rfl⟩
  refine codeAny_builtin F.entry_proto_collect ?_
  rw [Around.under_plainId F.plain_proto_collect _]
  show wpAny _ A.in1 (newList [] >>= fun l => again (.builtin "list.__iadd__" ⟨[l, .ref M], []⟩)) _ _ s
  refine wpAny_bind (wpAny_newObj_type ?_)
  refine wpAny_pure ⟨plainId_quiet F.plain_list_iadd _, codeAny_builtin F.entry_list_iadd ?_⟩
  rw [Around.under_plainId F.plain_list_iadd _]
  have hS1 : (s.heap.push { cls := .type "list", data := .seq ([] : List Value).toArray }).get? s.heap.objs.size = some { cls := .type "list", data := .seq ([] : List Value).toArray } := Heap.get?_push_size _ rfl
  have st1 : s.heap.StaysIn (s.heap.push { cls := .type "list", data := .seq ([] : List Value).toArray }) := fun d o e => Heap.get?_push_of_some _ e
  have hSn : ∀ d o, s.heap.get? d = some o → d ≠ s.heap.objs.size := fun d o e => Nat.ne_of_lt (Heap.lt_size e)
  have hIs : I ≠ s.heap.objs.size := by obtain ⟨o, ho, _⟩ := hit; exact hSn _ _ ho
  have hls : l ≠ s.heap.objs.size := by obtain ⟨o, ho, _⟩ := hl; exact hSn _ _ ho
  have hMS : M ≠ s.heap.objs.size := hSn _ _ hM
  have hTS : T ≠ s.heap.objs.size := hSn _ _ hTg
  revert hS1 st1 hSn hIs hls hMS hTS
  show _ → _ → _ → _ → _ → _ → _ → wpAny _ A.in1 (Builtin.List.listExtendWith (.ref s.heap.objs.size) (.ref M) (.ref s.heap.objs.size)) _ _ { s with heap := s.heap.push { cls := .type "list", data := .seq ([] : List Value).toArray } }
  generalize s.heap.objs.size = S
  generalize s.heap.push { cls := .type "list", data := .seq ([] : List Value).toArray } = h1
  intro hS1 st1 hSn hIs hls hMS hTS
  have hT₁ : ({ s with heap := h1 } : Shared).TypeIs (.ref M) "map" := ⟨_, st1 _ _ hM, rfl⟩
  unfold Builtin.List.listExtendWith
  refine wpAny_bind (wpAny_typeOf hT₁ ?_)
  have e1 : Builtin.List.listSameRef (.ref S) (.ref M) = false := by simp [Builtin.List.listSameRef, Ne.symm hMS]
  have e2 : (Value.type "map" == Value.type "list") = false := by decide
  have e3 : (Value.type "map" == Value.type "tuple") = false := by decide
  simp only [e1, e2, e3, Bool.or_false, Bool.false_eq_true, if_false]
  refine wpAny_bind (pyIter_map (st1 _ _ hM) ?_)
  refine wpAny_bind (wpAny_holding ?_)
  unfold Builtin.List.listLengthHint
  refine wpAny_bind (wpAny_specialOf hT₁ map_no_len ?_)
  show wpAny _ A.in1 (specialOf (Value.ref M) (Str.ofString "__length_hint__") >>= _) _ _ _
  refine wpAny_bind (wpAny_specialOf hT₁ map_no_hint ?_)
  refine wpAny_pure ?_
  show wpAny _ A.in1 (rule "list.extend.makes-room" >>= fun _ => Builtin.List.listTouch (.ref S) >>= fun _ =>
    again (.builtin "list.extend.loop" ⟨[.ref S, .ref M, .ref S], []⟩)) _ _ _
  refine wpAny_bind (wpAny_rule ?_)
  refine wpAny_bind ?_
  show wpAny _ A.in1 (updateSeq S (·.push .none) >>= fun _ => updateSeq S (·.pop)) _ _ _
  refine wpAny_bind (wpAny_updateSeq hS1 rfl ?_)
  have hS2 := Heap.get?_update_self (Obj.mapSeq (·.push Value.none)) hS1 rfl
  refine wpAny_updateSeq hS2 rfl ?_
  have hS3 := Heap.get?_update_self (Obj.mapSeq (·.pop)) hS2 rfl
  have oth : ∀ d o, d ≠ S → h1.get? d = some o →
      ((h1.update S (Obj.mapSeq (·.push Value.none))).update S (Obj.mapSeq (·.pop))).get? d = some o :=
    fun d o hb e => (Heap.get?_update_other _ _ (Ne.symm hb)).trans ((Heap.get?_update_other _ _ (Ne.symm hb)).trans e)
  have kp : ∀ d o, s.heap.get? d = some o → ((h1.update S (Obj.mapSeq (·.push Value.none))).update S (Obj.mapSeq (·.pop))).get? d = some o := fun d o e => oth d o (hSn d o e) (st1 d o e)
  revert hS3 kp
  show _ → _ → wpAny _ _ _ _ _ { s with heap := (h1.update S (Obj.mapSeq (·.push Value.none))).update S (Obj.mapSeq (·.pop)) }
  generalize (h1.update S (Obj.mapSeq (·.push Value.none))).update S (Obj.mapSeq (·.pop)) = h2
  intro hS3 kp
  clear oth hS2 hS1 st1
  refine wpAny_pure ⟨plainId_quiet F.plain_extend_loop _, ?_⟩
  have turn : ∀ (i : Nat) (x : Value) (acc : Array Value) (n : Nat) (h3 : Heap) (tk : Nat), (#[a, b] : Array Value)[i]? = some x → (x = a ∨ x = b) → h3.get? S = some { cls := .type "list", data := .seq acc n } → acc.size ≤ 2 → h3.IsListIter I l i → (∀ d o, d ≠ I → s.heap.get? d = some o → h3.get? d = some o) →
      (∀ n h4 tk, h4.get? S = some { cls := .type "list", data := .seq (acc.push x) n } → h4.IsListIter I l (i + 1) → (∀ d o, d ≠ I → s.heap.get? d = some o → h4.get? d = some o) →
        codeAny (model prog w) A (.builtin "list.extend.loop" ⟨[.ref S, .ref M, .ref S], []⟩) (fun r s' => match r with | .ok (.ret v) => v = .ref S ∧ ∃ n h5 tk, s' = { s with heap := h5, toks := tk } ∧ h5.get? S = some { cls := .type "list", data := .seq #[a, b] n } ∧ (∀ d o, d ≠ I → s.heap.get? d = some o → h5.get? d = some o) | _ => False) { s with heap := h4, toks := tk }) →
      codeAny (model prog w) A (.builtin "list.extend.loop" ⟨[.ref S, .ref M, .ref S], []⟩) (fun r s' => match r with | .ok (.ret v) => v = .ref S ∧ ∃ n h5 tk, s' = { s with heap := h5, toks := tk } ∧ h5.get? S = some { cls := .type "list", data := .seq #[a, b] n } ∧ (∀ d o, d ≠ I → s.heap.get? d = some o → h5.get? d = some o) | _ => False) { s with heap := h3, toks := tk } := by
    intro i x acc n h3 tk hx hxab hS hz hit' kp' next
    refine codeAny_builtin F.entry_extend_loop ?_
    rw [Around.under_plainId F.plain_extend_loop _]
    show wpAny _ A.in1 (pyNext (.ref M) >>= _) _ _ _
    have hl' : h3.IsList l #[a, b] := by obtain ⟨o, ho, r⟩ := hl; exact ⟨o, kp' _ _ (Ne.symm hIl) ho, r⟩
    refine wpAny_bind (pyNext_map_item (kp' _ _ (Ne.symm hIM) hM) (kp' _ _ (Ne.symm hIT) hTg) hit' hl' hx hIM (fun h' Q' hi' hs' hq => ?_) fun h' h'' tk' hi' hs' st => ?_)
    · exact hcall { s with heap := h', toks := tk } x Q' hxab (fun d o hd e => (hs'.2 d hd).trans (kp' d o hd e)) hq
    · have hS' : h''.get? S = some { cls := .type "list", data := .seq acc n } := st _ _ ((hs'.2 S (Ne.symm hIs)).trans hS)
      show wpAny _ A.in1 (updateSeq S (·.push x) >>= _) _ _ _
      refine wpAny_bind ?_
      refine wpAny_updateSeq hS' rfl (wpAny_pure ⟨plainId_quiet F.plain_extend_loop _, next _ _ _ (Heap.get?_update_self _ hS' rfl) ?_ fun d o hd e => ?_⟩) ?_ ?_
      · obtain ⟨o, ho, r⟩ := hi'
        exact ⟨o, (Heap.get?_update_other _ _ (Ne.symm hIs)).trans (st _ _ ho), r⟩
      · exact (Heap.get?_update_other _ _ (Ne.symm (hSn d o e))).trans (st _ _ ((hs'.2 d hd).trans (kp' d o hd e)))
      · show acc.size ≤ sizeLine
        rw [sizeLine_eq]; omega
      · show (acc.push x).size ≤ sizeLine + 1
        rw [Array.size_push, sizeLine_eq]; omega
  have hit2 : h2.IsListIter I l 0 := by obtain ⟨o, ho, r⟩ := hit; exact ⟨o, kp _ _ ho, r⟩
  refine codeAny_mono (turn 0 a _ _ h2 _ rfl (.inl rfl) hS3 (by simp) hit2 (fun d o _ e => kp d o e) fun n h3 tk hS' hit' kp' => ?_) ?_
  · refine turn 1 b _ _ h3 tk rfl (.inr rfl) hS' (by simp) hit' kp' fun n h4 tk hS'' hit'' kp'' => ?_
    refine codeAny_builtin F.entry_extend_loop ?_
    rw [Around.under_plainId F.plain_extend_loop _]
    show wpAny _ A.in1 (pyNext (.ref M) >>= _) _ _ _
    have hl' : h4.IsList l #[a, b] := by obtain ⟨o, ho, r⟩ := hl; exact ⟨o, kp'' _ _ (Ne.symm hIl) ho, r⟩
    refine wpAny_bind (pyNext_map_end hh (kp'' _ _ (Ne.symm hIM) hM) (kp'' _ _ (Ne.symm hIT) hTg) hit'' hl' rfl fun h' hE => ?_)
    exact wpAny_pure ⟨rfl, _, _, _, rfl, hE _ _ (Ne.symm hIs) hS'', fun d o hd e => hE d o hd (kp'' d o hd e)⟩
  · intro r s' hr
    match r, hr with
    | .ok (.ret v), ⟨hv, n, h5, tk, hs', hS5, kp5⟩ =>
      subst hv hs'
      exact hR _ _ _ _ hS5 kp5
/-- tuple(map(f, [a, b])) where f hands its argument back -/
theorem tuple_new_map {M : Addr} {a b : Value} : MeetsIn prog w (Builtin.«tuple.__new__» ⟨[.type "tuple", .ref M], []⟩)
    (fun A R s => (∃ o, s.heap.get? M = some o ∧ o.cls = .type "map") ∧ codeAny (model prog w) A.in1 (.builtin "proto.collect" ⟨[.ref M], []⟩) (fun r s' => match r with
      | .ok (.ret v) => ∃ S n, v = .ref S ∧ s'.heap.get? S = some { cls := .type "list", data := .seq #[a, b] n } ∧ R (.ok (.ret (.ref s'.heap.objs.size))) { s' with heap := s'.heap.push { cls := .type "tuple", data := .seq #[a, b] } }
      | _ => False) s) :=
  .of_wp fun A R s h => by
    obtain ⟨hp, g, d, tk, os⟩ := s; obtain ⟨⟨o, ho, hc⟩, h⟩ := h
    have hsub := sub_tuple_self
    have hinit := init_tuple_lookup
    have hmh := madeHere_tuple
    have hT : Shared.TypeIs ⟨hp, g, d, tk, os⟩ (.ref M) "map" := ⟨o, ho, hc⟩
    wp_walk using AutoSeq1.wpAny_loadPart' ho, wpAny_typeOf hT
    refine codeAny_mono h fun r s' hr => ?_
    match r, hr with
    | .ok (.ret v), ⟨S, n, hv, hS, hq⟩ =>
      subst hv
      show wpAny _ _ (load S >>= _) _ _ _
      refine wpAny_bind (wpAny_load hS ?_)
      refine wpAny_pure ?_
      show wpAny _ _ (Builtin.Tuple.tupleExact #[a, b] >>= fun v => ret v) _ _ _
      unfold Builtin.Tuple.tupleExact
      refine wpAny_bind (wpAny_newObj_type ?_ (by show (2 : Nat) ≤ sizeLine; rw [sizeLine_eq]; omega))
      exact wpAny_pure ⟨_, rfl, hq⟩
theorem call_tuple_map {M T f I l : Addr} {a b : Value} {Q : Value → Shared → Prop} (hh : A.handled = none) (hM : IsMap s.heap M T f) (hTg : s.heap.get? T = some { cls := .type "tuple", data := .seq #[.ref I] })
    (hit : s.heap.IsListIter I l 0) (hl : s.heap.IsList l #[a, b]) (hIM : I ≠ M) (hIT : I ≠ T) (hIl : I ≠ l)
    (hcall : ∀ (s' : Shared) x Q', (x = a ∨ x = b) → (∀ d o, d ≠ I → s.heap.get? d = some o → s'.heap.get? d = some o) → (∀ h'' tk, s'.heap.StaysIn h'' → Q' x { s' with heap := h'', toks := tk }) → wpAny (model prog w) A.in1.in1.in1.in1 (call (.ref f) [x]) Q' (fun _ _ => False) s')
    (hQ : ∀ D h'' tk, (∀ d o, d ≠ I → s.heap.get? d = some o → h''.get? d = some o) → (∀ p o, p ≠ I → s.heap.get? p = some o → p < D) → h''.get? D = some { cls := .type "tuple", data := .seq #[a, b] } → Q (.ref D) { s with heap := h'', toks := tk }) :
    wpAny (model prog w) A (call (.type "tuple") [.ref M]) Q E s := by
  refine callType_newIn F.called_tuple (by decide) (F.typeCall_tuple_1 _) (F.newCall_tuple_1 _) (fun obj => F.args_object_init_2 obj _) F.entry_tuple_new
    (tuple_new_map (a := a) (b := b)) ⟨⟨_, hM, rfl⟩, ?_⟩
  refine collect_map hh hM hTg hit hl hIM hIT hIl hcall fun S n h'' tk hS kp => ⟨S, n, rfl, hS, ?_⟩
  exact ⟨⟨_, Heap.get?_push_size _ rfl, rfl⟩, hQ _ _ _ (fun d o hd e => Heap.get?_push_of_some _ (kp d o hd e)) (fun p o hp e => Heap.lt_size (kp p o hp e)) (Heap.get?_push_size _ rfl)⟩
end
local macro_rules | `(tactic| walk_at "subscriptTail Name Constant ref int") => `(tactic| (k_here; (with_reducible show wpAny _ _ (subscriptTail _ _ (Value.ref _) (Value.int _ _)) _ _ _); k_dflt (refine' item_tupleT ?t ?a ?b ?c ?d ?_; (case t => exact News.isTup (by k_asm) (by k_mem)); (case a => decide); (case b => decide); (case c => rfl); (case d => rfl); k_whole)))

namespace LCp
open LCg LCt
def SrcAtT (h₀ : Heap) (ax : Addr) (its : Array Value) (news : List (Addr × Obj)) : Prop := IsTup h₀ ax its ∨ ∃ o, (ax, o) ∈ news ∧ o.cls = .type "tuple" ∧ ∃ n, o.data = .seq its n
theorem SrcAtT.tup {h₀ h : Heap} {L ax : Addr} {its : Array Value} {news : List (Addr × Obj)} (x : SrcAtT h₀ ax its news) (k : ∀ b o, h₀.get? b = some o → h.get? b = some o) (N : News h₀ L h news) : h.IsTuple ax its := by
  rcases x with ⟨o, e, r⟩ | ⟨o, hm, r⟩
  · exact ⟨o, k _ _ e, r⟩
  · exact ⟨o, (N _ hm).1, r⟩
theorem tup_st {h₀ : Heap} {L ax I : Addr} {its : Array Value} : ∀ i (h h' : Heap) (o : Obj) (nw : List (Addr × Obj)), (h.IsTupleIter I ax i ∧ h.IsTuple ax its) → h.get? I = some o → h'.get? I = some o → (∀ b o, h₀.get? b = some o → h'.get? b = some o) → News h₀ L h' nw → SrcAtT h₀ ax its nw → (h'.IsTupleIter I ax i ∧ h'.IsTuple ax its) :=
  fun i h h' o nw st e e' k N S => ⟨by obtain ⟨o', q, r⟩ := st.1; rw [e] at q; cases q; exact ⟨o, e', r⟩, S.tup k N⟩
def SrcTU (prog : Program) (w : World) (A : Around) (h₀ : Heap) (L : Addr) (m : Str → Option Value) (env : Env) (elt : Expr) (x : Str) (scope : Scope) (cl : List (Str × Addr)) (Fin : Shared → List Value → List (Addr × Obj) → Prop) (xv : Value) (s₁ : Shared) : Prop :=
  ∃ ax its news, xv = .ref ax ∧ A.handled = none ∧ Fr h₀ L s₁.heap m ∧ News h₀ L s₁.heap news ∧ SrcAtT h₀ ax its news ∧ its.size ≤ sizeLine ∧
    ∀ g, CompRest prog w A h₀ L m env elt x scope cl { s₁ with heap := g } (SrcAtT h₀ ax its) (fun i v => its[i]? = some v) (Fin { s₁ with heap := g }) its.size 0 [] news
theorem Assign_SrcTU {prog : Program} {w : World} {A : Around} {E : Value → Shared → Prop} {s : Shared} {h₀ : Heap} {L : Addr} {m : Str → Option Value} {env : Env} {elt iter : Expr} {x y : Str} {px py : Pos} {scope : Scope} {cl : List (Str × Addr)} {pos spos : Pos} {Q : Flow → Shared → Prop} (F₀ : Fr h₀ L s.heap m) (hLe : env.locals = L)
    (hsw : swapsWith (.ListComp elt [⟨.Name x px, iter, [], 0⟩] scope pos) (some (.Name y py)) spos.line env = pure true)
    (hclos : closureFor scope env = pure cl) (hcell : ∀ z ∈ scope.names, z.2 ≠ .cell) (hkind : scope.kind = .function)
    (hnames : ∀ z ∈ scope.names, z.2 = .local → scope.names.lookup z.1 = some .local) (hx : scope.names.lookup x = some .local)
    (hy : env.kindOf y = some .local) (hp : (env.scope.kind == .class || (env.scope.kind == .module && env.locals != env.globals)) = false)
    (h : wpAny (model prog w) A (eval iter env) (SrcTU prog w A h₀ L m env elt x scope cl (fun s₂ => FinA h₀ L m s₂ y Q)) E s)
    (hs : ∀ x, foldedSetIterable iter env x = pure x := by intro _; rfl) :
    wpAny (model prog w) A (exec (.Assign [.Name y py] (.ListComp elt [⟨.Name x px, iter, [], 0⟩] scope pos) spos) env) Q E s := by
  subst hLe
  rw [exec_Assign_Name_used _ _ _ _ hsw]
  refine wpAny_bind (wpAny_standAt (wpAny_bind ?_))
  show wpAny _ A (do let _ ← comprehension (.ListComp elt [⟨.Name x px, iter, [], 0⟩] scope pos) scope env _ (newList []) false (eval iter env) (some (assign (.Name y py) env))) _ _ s
  refine wpAny_bind (wpAny_mono (wpAny_comprehension_free (use := some (assign (.Name y py) env)) (Q := fun _ s' => Q .next s') rfl hs hclos hkind hnames
    (wpAny_mono h (fun xv s₁ h₁ => ?_) fun _ _ e => e)) (fun _ s' hq => wpAny_pure (wpAny_pure hq)) fun _ _ e => e)
  obtain ⟨ax, its, news, rfl, hh, F, N, S, hsz, R⟩ := h₁
  have hl := S.tup F.keep N
  have hlt : ax < s₁.heap.objs.size := by obtain ⟨_, e, _⟩ := hl; exact Heap.lt_size e
  refine wpAny_pyIter_tuple hl ?_
  have up : ∀ b o, s₁.heap.get? b = some o → (s₁.heap.push { cls := .type "tuple_iterator", data := .fields #[.ref ax, .int 0 0] }).get? b = some o := fun b o e => Heap.get?_push_of_some _ e
  refine block_U (Walks.tuple hh s₁.heap.objs.size ax (Nat.ne_of_lt hlt) its) hsz (fun i h st => by obtain ⟨o, e, _⟩ := st.1; exact ⟨o, e⟩) tup_st hcell hkind hx ⟨⟨_, Heap.get?_push_size _ rfl, rfl, rfl⟩, hl.at fun o e => Heap.get?_push_of_some _ e⟩ (fun b hb => ?_)
    (F.keeps up) (N.grown up) (Nat.ne_of_lt F.ns.lt) (next_is_new F) (fun p hp => Nat.ne_of_lt (Heap.lt_size (N p hp).1)) S (R _) ?_
  · show b < (s₁.heap.push _).objs.size
    rw [Heap.size_push]
    rcases List.mem_cons.mp hb with rfl | hb
    · exact Nat.lt_succ_self _
    · rw [List.mem_singleton.mp hb]; exact Nat.lt_succ_of_lt hlt
  · intro D C h' tk m' ys news' F' N' o1 hn hC₀ hD₀ hCL hDL hCD offC fin
    show wpAny _ A (assign (.Name y py) env (.ref D)) _ _ _
    refine wpAny_assign_Name (wpAny_storeName_local hy F'.ns (fun h₂ hn₂ hs₂ => ?_) hp)
    have hL₀ : h₀.get? env.locals = none := Heap.get?_none_of_le F'.above
    have F₂ : Fr h₀ env.locals h₂ (fun z => if z = y then some (.ref D) else m z) := ⟨hn₂, fun b o e => hs₂.extBut b o (fun q => by rw [q, hL₀] at e; cases e) (F'.keep b o e), F'.above⟩
    refine ⟨m', hn.sameBut hs₂ hCL, fun h'' hs'' => fin D h'' _ (F₂.change hs'' hCL hC₀) (fun p hp => ?_) o1⟩
    have z : h₂.get? p.1 = some p.2 := hs₂.extBut _ _ (N' p hp).2.1 (N' p hp).1
    refine ⟨hs''.extBut _ _ ?_ z, (N' p hp).2⟩
    rcases List.mem_cons.mp hp with rfl | hp
    · exact Ne.symm hCD
    · exact offC p hp
def SrcTT (prog : Program) (w : World) (A : Around) (h₀ : Heap) (L : Addr) (m : Str → Option Value) (env : Env) (ct elt : Expr) (x : Str) (scope : Scope) (cl : List (Str × Addr)) (Fin : Shared → List Value → List (Addr × Obj) → Prop) (xv : Value) (s₁ : Shared) : Prop :=
  ∃ ax its news, xv = .ref ax ∧ A.handled = none ∧ Fr h₀ L s₁.heap m ∧ News h₀ L s₁.heap news ∧ SrcAtT h₀ ax its news ∧ its.size ≤ sizeLine ∧
    ∀ g, CompRestT prog w A h₀ L m env ct elt x scope cl { s₁ with heap := g } (SrcAtT h₀ ax its) (fun i v => its[i]? = some v) (Fin { s₁ with heap := g }) its.size 0 [] news
theorem Assign_SrcTT {prog : Program} {w : World} {A : Around} {E : Value → Shared → Prop} {s : Shared} {h₀ : Heap} {L : Addr} {m : Str → Option Value} {env : Env} {ct elt iter : Expr} {x y : Str} {px py : Pos} {scope : Scope} {cl : List (Str × Addr)} {pos spos : Pos} {Q : Flow → Shared → Prop} (F₀ : Fr h₀ L s.heap m) (hLe : env.locals = L)
    (hsw : swapsWith (.ListComp elt [⟨.Name x px, iter, [ct], 0⟩] scope pos) (some (.Name y py)) spos.line env = pure true)
    (hclos : closureFor scope env = pure cl) (hcell : ∀ z ∈ scope.names, z.2 ≠ .cell) (hkind : scope.kind = .function)
    (hnames : ∀ z ∈ scope.names, z.2 = .local → scope.names.lookup z.1 = some .local) (hx : scope.names.lookup x = some .local)
    (hy : env.kindOf y = some .local) (hp : (env.scope.kind == .class || (env.scope.kind == .module && env.locals != env.globals)) = false)
    (h : wpAny (model prog w) A (eval iter env) (SrcTT prog w A h₀ L m env ct elt x scope cl (fun s₂ => FinA h₀ L m s₂ y Q)) E s)
    (hs : ∀ x, foldedSetIterable iter env x = pure x := by intro _; rfl) :
    wpAny (model prog w) A (exec (.Assign [.Name y py] (.ListComp elt [⟨.Name x px, iter, [ct], 0⟩] scope pos) spos) env) Q E s := by
  subst hLe
  rw [exec_Assign_Name_used _ _ _ _ hsw]
  refine wpAny_bind (wpAny_standAt (wpAny_bind ?_))
  show wpAny _ A (do let _ ← comprehension (.ListComp elt [⟨.Name x px, iter, [ct], 0⟩] scope pos) scope env _ (newList []) false (eval iter env) (some (assign (.Name y py) env))) _ _ s
  refine wpAny_bind (wpAny_mono (wpAny_comprehension_free (use := some (assign (.Name y py) env)) (Q := fun _ s' => Q .next s') rfl hs hclos hkind hnames
    (wpAny_mono h (fun xv s₁ h₁ => ?_) fun _ _ e => e)) (fun _ s' hq => wpAny_pure (wpAny_pure hq)) fun _ _ e => e)
  obtain ⟨ax, its, news, rfl, hh, F, N, S, hsz, R⟩ := h₁
  have hl := S.tup F.keep N
  have hlt : ax < s₁.heap.objs.size := by obtain ⟨_, e, _⟩ := hl; exact Heap.lt_size e
  refine wpAny_pyIter_tuple hl ?_
  have up : ∀ b o, s₁.heap.get? b = some o → (s₁.heap.push { cls := .type "tuple_iterator", data := .fields #[.ref ax, .int 0 0] }).get? b = some o := fun b o e => Heap.get?_push_of_some _ e
  refine block_T (Walks.tuple hh s₁.heap.objs.size ax (Nat.ne_of_lt hlt) its) hsz (fun i h st => by obtain ⟨o, e, _⟩ := st.1; exact ⟨o, e⟩) tup_st hcell hkind hx ⟨⟨_, Heap.get?_push_size _ rfl, rfl, rfl⟩, hl.at fun o e => Heap.get?_push_of_some _ e⟩ (fun b hb => ?_)
    (F.keeps up) (N.grown up) (Nat.ne_of_lt F.ns.lt) (next_is_new F) (fun p hp => Nat.ne_of_lt (Heap.lt_size (N p hp).1)) S (R _) ?_
  · show b < (s₁.heap.push _).objs.size
    rw [Heap.size_push]
    rcases List.mem_cons.mp hb with rfl | hb
    · exact Nat.lt_succ_self _
    · rw [List.mem_singleton.mp hb]; exact Nat.lt_succ_of_lt hlt
  · intro D C h' tk m' ys news' F' N' o1 hn hC₀ hD₀ hCL hDL hCD offC fin
    show wpAny _ A (assign (.Name y py) env (.ref D)) _ _ _
    refine wpAny_assign_Name (wpAny_storeName_local hy F'.ns (fun h₂ hn₂ hs₂ => ?_) hp)
    have hL₀ : h₀.get? env.locals = none := Heap.get?_none_of_le F'.above
    have F₂ : Fr h₀ env.locals h₂ (fun z => if z = y then some (.ref D) else m z) := ⟨hn₂, fun b o e => hs₂.extBut b o (fun q => by rw [q, hL₀] at e; cases e) (F'.keep b o e), F'.above⟩
    refine ⟨m', hn.sameBut hs₂ hCL, fun h'' hs'' => fin D h'' _ (F₂.change hs'' hCL hC₀) (fun p hp => ?_) o1⟩
    have z : h₂.get? p.1 = some p.2 := hs₂.extBut _ _ (N' p hp).2.1 (N' p hp).1
    refine ⟨hs''.extBut _ _ ?_ z, (N' p hp).2⟩
    rcases List.mem_cons.mp hp with rfl | hp
    · exact Ne.symm hCD
    · exact offC p hp
end LCp

section
variable {prog : Program} {w : World} {A : Around} {E : Value → Shared → Prop} {s : Shared}
theorem hash_true {Q : Int → Shared → Prop} (h : Q 1 { s with toks := s.toks + 1 }) : wpAny (model prog w) A (pyHash (.bool true)) Q E s := by
  have hT : s.TypeIs (.bool true) "bool" := by first | exact typeIs_bool s true | trivial | rfl
  unfold pyHash
  have hv : [Value.bool true].any Value.onHeap = false := rfl
  refine wpAny_bind ?_
  rw [cRoomFor, if_neg (by rw [hv]; exact Bool.false_ne_true)]; refine wpAny_pure ?_
  refine wpAny_bind (wpAny_specialOf hT F.slot_bool_hash.lookup ?_)
  show wpAny _ _ (if (some (Value.builtin "int.__hash__") == some Value.none) = true then _ else _) Q E s
  rw [if_neg (by rw [beq_builtin_none]; exact Bool.false_ne_true)]
  refine wpAny_bind (wpAny_specialOf hT F.slot_bool_hash.lookup ?_)
  show wpAny _ _ (callSpecialIfBoundUnlessNone? (.bool true) "__hash__" _ >>= _) Q E s
  refine wpAny_bind (wpAny_callSpecialIfBoundUnlessNone?_slot hT F.slot_bool_hash
    (wpAny_call_entry F.slot_bool_hash hT entry_int_hash
      (show wpAny _ _ (do ret (← mkInt (rawHash 1))) _ _ s from wpAny_ret_mkInt ?_) (args_int_hash _)))
  exact wpAny_pure h
theorem eq_true2 {Q : Bool → Shared → Prop} (h : Q true s) : wpAny (model prog w) A (eqBool (.bool true) (.bool true)) Q E s := by
  unfold eqBool
  refine wpAny_holding ?_
  rw [if_pos (by rfl)]
  exact wpAny_bind (wpAny_rule (wpAny_pure h))
def setT (led : Bool) : SetTable := (layNew (.fresh 0 0 led) #[] 1 (.bool true)).2.1
theorem setT_is : ∀ led, layNew (.fresh 0 0 led) #[] 1 (.bool true) = (#[(1, .bool true)], setT led, false, false) := by intro led; cases led <;> rfl
theorem setT_full : ∀ led, (setT led).tooFull = false := by intro led; cases led <;> rfl
theorem setT_plain : ∀ led, (setT led).plain = true := by intro led; cases led <;> rfl
theorem setT_led : ∀ led, (setT led).led = led := by intro led; cases led <;> rfl
theorem setT_fits : ∀ led, (setT led).fits (#[((1 : Int), Value.bool true)] : Array (Int × Value)).size = true := by intro led; cases led <;> rfl
theorem setT_place : ∀ led, (setT led).place = #[1] := by intro led; cases led <;> rfl
abbrev set0 (led : Bool) : Obj := { cls := .type "set", dict := none, data := .set #[] 0 (.fresh 0 0 led) }
abbrev set1 (led : Bool) : Obj := { cls := .type "set", dict := none, data := .set #[(1, .bool true)] 1 (setT led) }
theorem set_add_new {a : Addr} {led : Bool} {Q : Value → Shared → Prop} (hS : s.heap.get? a = some (set0 led))
    (h : ∀ h', Heap.SameBut a s.heap h' → h'.get? a = some (set1 led) → Q .none { s with heap := h', toks := s.toks + 1 }) : wpAny (model prog w) A (call (.builtin "set.add") [.ref a, .bool true]) Q E s := by
  have hT : s.TypeIs (.ref a) "set" := ⟨_, hS, rfl⟩
  refine wpAny_call_entry F.slot_set_add hT F.entry_set_add ?_ (F.args_set_add_2 _ _)
  unfold Builtin.«set.add» Builtin.Frozenset.oneOther
  simp only [List.isEmpty_nil, bind_assoc]
  unfold Builtin.Frozenset.addrOf setAdd
  refine wpAny_bind (wpAny_pure ?_)
  try dsimp only
  refine wpAny_bind (wpAny_pure ?_)
  try dsimp only
  refine wpAny_bind ?_
  refine wpAny_holding ?_
  refine wpAny_bind (hash_true ?_)
  unfold setAddHashed setAddHashedIn
  refine wpAny_holding (wpAny_bind (wpAny_setState_of (s := { s with toks := s.toks + 1 }) hS rfl rfl ?_))
  dsimp only
  rw [show byScan (Value.bool true) #[] = true from by simp [byScan, scanBound, Value.scannable]]
  simp only [↓reduceIte]
  unfold setAddByScan
  refine wpAny_bind ?_
  refine wpAny_bind (wpAny_rule ?_)
  refine wpAny_bind (m := setScan a (.bool true) 1 true #[]) (wpAny_pure ?_)
  dsimp only
  simp only [setT_is, setT_plain, if_true]
  refine wpAny_bind (wpAny_of_eq (a := ()) rfl ?_)
  refine wpAny_bind (m := hashByValue 8 (.bool true)) (wpAny_of_eq (a := true) rfl ?_)
  simp only [setT_full, Bool.not_false, Bool.and_false, Bool.false_eq_true, if_true, if_false]
  refine wpAny_bind (wpAny_storeSet_of (s := { s with toks := s.toks + 1 }) hS rfl ?_ (by rw [sizeLine_eq]; decide))
  refine wpAny_pure (wpAny_pure (wpAny_pure ⟨_, rfl, h _ (Heap.SameBut.update ..) ?_⟩))
  exact (Heap.get?_update_self _ hS rfl)
theorem set_add_again {a : Addr} {led : Bool} {Q : Value → Shared → Prop} (hS : s.heap.get? a = some (set1 led))
    (h : Q .none { s with toks := s.toks + 1 }) : wpAny (model prog w) A (call (.builtin "set.add") [.ref a, .bool true]) Q E s := by
  have hT : s.TypeIs (.ref a) "set" := ⟨_, hS, rfl⟩
  refine wpAny_call_entry F.slot_set_add hT F.entry_set_add ?_ (F.args_set_add_2 _ _)
  unfold Builtin.«set.add» Builtin.Frozenset.oneOther
  simp only [List.isEmpty_nil, bind_assoc]
  unfold Builtin.Frozenset.addrOf setAdd
  refine wpAny_bind (wpAny_pure ?_)
  try dsimp only
  refine wpAny_bind (wpAny_pure ?_)
  try dsimp only
  refine wpAny_bind ?_
  refine wpAny_holding ?_
  refine wpAny_bind (hash_true ?_)
  unfold setAddHashed setAddHashedIn
  refine wpAny_holding (wpAny_bind (wpAny_setState_of (s := { s with toks := s.toks + 1 }) hS rfl (setT_fits led) ?_))
  dsimp only
  rw [show byScan (Value.bool true) #[(1, Value.bool true)] = true from by simp [byScan, scanBound, Value.scannable]]
  simp only [↓reduceIte]
  unfold setAddByScan
  refine wpAny_bind ?_
  refine wpAny_bind (wpAny_rule ?_)
  refine wpAny_bind ?_
  show wpAny _ _ (setScanFrom a (.bool true) 1 true [(1, .bool true)] 0) _ _ _
  unfold setScanFrom
  rw [if_pos (by rfl)]
  refine wpAny_bind (wpAny_setEpoch_of (s := { s with toks := s.toks + 1 }) hS rfl (setT_fits led) ?_)
  refine wpAny_bind (eq_true2 ?_)
  refine wpAny_pure ?_
  refine wpAny_pure (wpAny_pure ?_)
  exact wpAny_pure ⟨_, rfl, h⟩
/-- whether the sets' order is a text of the world's -/
def byT (prog : Program) (w : World) : Bool := (⟨prog, w.params⟩ : Setting).params.followText "set-order"
theorem sets_by {Q : Bool → Shared → Prop} (h : Q (byT prog w) s) : wpAny (model prog w) A setsByText Q E s := by
  unfold setsByText
  exact wpAny_bind (wpAny_askSetting (wpAny_pure h))
theorem new_set {Q : Value → Shared → Prop} (h : Q (.ref s.heap.objs.size) { s with heap := s.heap.push (set0 (!byT prog w)) }) : wpAny (model prog w) A (newSet (.type "set")) Q E s := by
  unfold newSet
  refine wpAny_bind (sets_by ?_)
  dsimp only
  simp only [newObj]
  exact wpAny_bind (wpAny_alloc (wpAny_pure h))
theorem pick_one (f : Nat → Nat) (x : Int × Value) : pickOrder f #[x] = #[x] := by
  unfold pickOrder
  simp [pickOrder.go, Nat.mod_one]
abbrev setIt (a : Addr) (x i : Int) : Obj := { cls := .type "set_iterator", dict := none, data := .fields #[rawInt x, rawInt i, .ref a, rawInt 1, rawInt 1], slots := #[] }
theorem entry_set_iter : entryFor table "set.__iter__" = some Builtin.«frozenset.__iter__» :=
  entryFor_alias (id' := "frozenset.__iter__") (by kernel_rfl) (by first | rfl | decide +kernel | (unfold String.splitOn; simp +decide [String.splitOnAux])) (by decide +kernel) (by kernel_rfl)
theorem owner_setit : Manifest.owners.lookup (String.ofList ['r', 'o', 't', 'a', 'r', 'e', 't', 'i', '_', 't', 'e', 's'].reverse) = some Manifest.sig_set_iterator := by kernel_rfl
theorem slot_setit_next : Slot "set_iterator" "__next__" "set_iterator.__next__" :=
  .of (owner := "set_iterator") (n := "__next__") (by rw [typeLookup_type, builtinLookup_eq_fast]; kernel_rfl) (by decide +kernel) (by decide +kernel) (by decide +kernel)
    (by first | exact .inl (by decide +kernel) | exact .inr (by decide +kernel)) (by rw [isSubtype_type]; kernel_rfl)
theorem entry_setit_next : entryFor table "set_iterator.__next__" = some Builtin.«set_iterator.__next__» := entryFor_of_tree (by kernel_rfl)
theorem args_setit_next (a : Value) : argsOk "set_iterator.__next__" ⟨[a], []⟩ := by
  unfold argsOk; rw [signature?_of (id := "set_iterator.__next__") (n := ['_', '_', 't', 'x', 'e', 'n', '_', '_']) (o := ['r', 'o', 't', 'a', 'r', 'e', 't', 'i', '_', 't', 'e', 's']) (by kernel_rfl) owner_setit]; kernel_rfl
theorem iter_set1 {a : Addr} {led : Bool} {Q : Value → Shared → Prop} (hS : s.heap.get? a = some (set1 led))
    (h : Q (.ref s.heap.objs.size) { s with heap := s.heap.push (setIt a 0 0) }) : wpAny (model prog w) A (pyIter (.ref a)) Q E s := by
  have hT : s.TypeIs (.ref a) "set" := ⟨_, hS, rfl⟩
  refine wpAny_pyIter_slot hT F.slot_set_iter (wpAny_call_entry F.slot_set_iter hT entry_set_iter ?_ (F.args_set_iter_1 _))
  unfold Builtin.«frozenset.__iter__» Builtin.Frozenset.slot0 slotArgs
  simp only [List.isEmpty_nil, Bool.not_true, Bool.false_eq_true, ↓reduceIte, bind_assoc, List.length_nil, bne_self_eq_false]
  unfold Builtin.Frozenset.addrOf Builtin.Frozenset.sizeOf
  refine wpAny_bind (wpAny_pure ?_)
  try dsimp only
  refine wpAny_bind (wpAny_pure ?_)
  try dsimp only
  refine wpAny_bind (wpAny_bind (wpAny_setEntries_of hS rfl (setT_fits led) (wpAny_pure ?_)))
  unfold setDrawn
  refine wpAny_bind (wpAny_bind (wpAny_setState_of hS rfl (setT_fits led) ?_))
  try dsimp only
  refine wpAny_bind (sets_by ?_)
  refine wpAny_of_eq (a := false) (by cases led <;> cases byT prog w <;> rfl) ?_
  rw [if_neg Bool.false_ne_true]
  refine wpAny_bind (wpAny_pure ?_)
  refine wpAny_bind (wpAny_setEpoch_of hS rfl (setT_fits led) ?_)
  exact wpAny_bind (wpAny_newObj_type (wpAny_pure ⟨_, rfl, "set_iterator", _, ⟨_, Heap.get?_push_size _ rfl, rfl⟩, slot_setit_next.lookup, h⟩))
theorem walk_one {a : Addr} {led : Bool} {Q : Array (Int × Value) → Shared → Prop} (hb : byT prog w = true) (hS : s.heap.get? a = some (set1 led)) (h : Q #[(1, .bool true)] s) : wpAny (model prog w) A (setWalk a) Q E s := by
  unfold setWalk
  refine wpAny_bind (wpAny_setState_of hS rfl (setT_fits _) ?_)
  try dsimp only
  refine wpAny_bind (sets_by ?_)
  simp only [hb, if_true]
  refine wpAny_bind (wpAny_askSetting ?_)
  rw [pick_one]
  exact wpAny_pure h
theorem next_one {a : Addr} {Q : Option (Value × Nat) → Shared → Prop} (hS : s.heap.get? a = some (set1 (!byT prog w)))
    (h : ∀ x : Nat, (byT prog w = false → x = 2) → Q (some (.bool true, x)) s) : wpAny (model prog w) A (setNext a 0 0 1) Q E s := by
  unfold setNext
  refine wpAny_bind (wpAny_setState_of hS rfl (setT_fits _) ?_)
  try dsimp only
  refine wpAny_bind (sets_by ?_)
  cases hb : byT prog w with
  | true =>
    simp only [if_true]
    rw [if_neg (by decide)]
    refine wpAny_bind (walk_one hb hS ?_)
    exact wpAny_pure (h 0 (fun e => by rw [hb] at e; cases e))
  | false =>
    simp only [Bool.false_eq_true, if_false]
    rw [if_neg (by decide)]
    refine wpAny_bind (wpAny_of_eq (a := ()) rfl ?_)
    exact wpAny_pure (h 2 (fun _ => rfl))
theorem next_none {a : Addr} {x : Nat} {Q : Option (Value × Nat) → Shared → Prop} (hS : s.heap.get? a = some (set1 (!byT prog w))) (hx : byT prog w = false → x = 2)
    (h : Q none s) : wpAny (model prog w) A (setNext a x 1 1) Q E s := by
  unfold setNext
  refine wpAny_bind (wpAny_setState_of hS rfl (setT_fits _) ?_)
  try dsimp only
  refine wpAny_bind (sets_by ?_)
  cases hb : byT prog w with
  | true =>
    simp only [if_true]
    rw [if_neg (by decide)]
    refine wpAny_bind (walk_one hb hS ?_)
    exact wpAny_pure h
  | false =>
    rw [hx hb]
    simp only [Bool.false_eq_true, if_false]
    rw [if_neg (by decide)]
    refine wpAny_bind (wpAny_of_eq (a := ()) rfl ?_)
    exact wpAny_pure h
theorem next_set1 {a I : Addr} {Q : Option Value → Shared → Prop} (hS : s.heap.get? a = some (set1 (!byT prog w))) (hI : s.heap.get? I = some (setIt a 0 0)) 
    (h : ∀ h' (x : Nat), Heap.SameBut I s.heap h' → h'.get? I = some (setIt a x 1) → (byT prog w = false → x = 2) → Q (some (.bool true)) { s with heap := h' }) : wpAny (model prog w) A (pyNext (.ref I)) Q E s := by
  have hT : s.TypeIs (.ref I) "set_iterator" := ⟨_, hI, rfl⟩
  unfold pyNext
  refine wpAny_bind (wpAny_attempt (wpAny_callSpecial?_slot (name := Str.ofString "__next__") hT slot_setit_next
    (wpAny_call_entry slot_setit_next hT entry_setit_next ?_ (args_setit_next _))))
  unfold Builtin.«set_iterator.__next__» slotArgs
  simp only [List.isEmpty_nil, Bool.not_true, Bool.false_eq_true, ↓reduceIte, bind_assoc, List.length_nil, bne_self_eq_false]
  refine wpAny_bind (wpAny_pure ?_)
  refine wpAny_bind (wpAny_fieldsOf hI rfl ?_)
  refine wpAny_bind (wpAny_setEntries_of hS rfl (setT_fits _) ?_)
  rw [if_neg (by simp [rawInt])]
  refine wpAny_bind (next_one hS fun x hx => ?_)
  dsimp only
  refine wpAny_bind (wpAny_setField_rec hI (by simp) fun h₂ hI₂ hs₂ => ?_)
  refine wpAny_bind (wpAny_setField_rec hI₂ (by simp) fun h₃ hI₃ hs₃ => ?_)
  refine wpAny_pure ⟨_, rfl, wpAny_pure (h _ x (hs₂.trans hs₃) hI₃ hx)⟩
theorem next_set1_end {a I : Addr} {x : Nat} {Q : Option Value → Shared → Prop} (hh : A.handled = none) (hS : s.heap.get? a = some (set1 (!byT prog w))) (hI : s.heap.get? I = some (setIt a x 1)) (hx : byT prog w = false → x = 2)
    (h : ∀ h', Heap.ExtBut I s.heap h' → Q none { s with heap := h' }) : wpAny (model prog w) A (pyNext (.ref I)) Q E s := by
  have hT : s.TypeIs (.ref I) "set_iterator" := ⟨_, hI, rfl⟩
  unfold pyNext
  refine wpAny_bind (wpAny_attempt (wpAny_callSpecial?_slot (name := Str.ofString "__next__") hT slot_setit_next
    (wpAny_call_entry slot_setit_next hT entry_setit_next ?_ (args_setit_next _))))
  unfold Builtin.«set_iterator.__next__» slotArgs
  simp only [List.isEmpty_nil, Bool.not_true, Bool.false_eq_true, ↓reduceIte, bind_assoc, List.length_nil, bne_self_eq_false]
  refine wpAny_bind (wpAny_pure ?_)
  refine wpAny_bind (wpAny_fieldsOf hI rfl ?_)
  refine wpAny_bind (wpAny_setEntries_of hS rfl (setT_fits _) ?_)
  rw [if_neg (by simp)]
  refine wpAny_bind (next_none hS hx ?_)
  dsimp only
  refine wpAny_bind (wpAny_setField_rec hI (by simp) fun h₂ hI₂ hs₂ => ?_)
  show wpAny _ _ (newExc (.type "StopIteration") [] >>= _) _ _ _
  refine wpAny_bind ?_
  simp only [newExc, newTuple]
  refine wpAny_bind (wpAny_newObj_type ?_ (by size_fits))
  refine wpAny_bind (m := firstArgMember _ _) (wpAny_of_eq (a := Value.none) (by first | rfl | (simp only [firstArgMember]; rfl)) ?_)
  refine wpAny_newObj_type ?_ (by size_fits)
  simp only [raiseNew]
  refine wpAny_bind (wpAny_handled ?_)
  first | rw [show A.in1.handled = none from hh] | rw [hh]
  refine wpAny_bind (wpAny_pure (wpAny_throw ?_))
  refine wpAny_bind (wpAny_isInstance (T := "StopIteration") (b := true) ⟨_, Heap.get?_push_size _ rfl, rfl⟩ isSubtype_stop ?_)
  exact wpAny_pure (h _ ((hs₂.extBut.push _).push _))
theorem unpack_set1 {h₀ : Heap} {L : Addr} {m : Str → Option Value} {news : List (Addr × Obj)} {env : Env} {y : Str} {py pos : Pos} {k : Nat} {a : Addr} {Q : Unit → Shared → Prop} (hh : A.handled = none)
    (Fm : Fr h₀ L s.heap m) (N : News h₀ L s.heap news) (hm : (a, set1 (!byT prog w)) ∈ news) (hLe : env.locals = L) (hy : env.kindOf y = some .local) (hp : (env.scope.kind == .class || (env.scope.kind == .module && env.locals != env.globals)) = false)
    (h : ∀ h' tk, Fr h₀ L h' (fun z => if z = y then some (.bool true) else m z) → News h₀ L h' news → Q () { s with heap := h', toks := tk }) :
    wpAny (model prog w) A (assign (.Tuple [.Name y py] k pos) env (.ref a)) Q E s := by
  subst hLe
  have hS := (N _ hm).1
  have hT : s.TypeIs (.ref a) "set" := ⟨_, hS, rfl⟩
  show wpAny _ _ (standAt pos >>= fun _ => unpack (.ref a) (assignEach [.Name y py] env)) _ _ _
  refine wpAny_bind (wpAny_standAt ?_)
  unfold unpack unpackItems
  refine wpAny_bind (wpAny_holding ?_)
  refine wpAny_bind ?_
  unfold notIterableAtAll
  refine wpAny_bind (wpAny_specialOf hT F.slot_set_iter.lookup ?_)
  have ea : assignEach [.Name y py] env = [(false, fun v => assign (.Name y py) env v)] := rfl
  simp only [Option.isSome_some, if_true, ea, List.findIdx?_cons, List.findIdx?_nil, List.length_cons, List.length_nil, Bool.false_eq_true, if_false, Option.map_none, List.map_cons, List.map_nil]
  refine wpAny_pure ?_
  simp only [Bool.false_eq_true, if_false]
  refine wpAny_bind (wpAny_holding (iter_set1 hS ?_))
  have hI₀ : h₀.get? s.heap.objs.size = none := Heap.get?_none_of_le (Nat.le_trans Fm.above (Nat.le_of_lt Fm.ns.lt))
  have hLI : env.locals ≠ s.heap.objs.size := Nat.ne_of_lt Fm.ns.lt
  have hNI : ∀ p ∈ news, p.1 ≠ s.heap.objs.size := fun p hp => Nat.ne_of_lt (Heap.lt_size (N p hp).1)
  have hI1 : (s.heap.push (setIt a 0 0)).get? s.heap.objs.size = some (setIt a 0 0) := Heap.get?_push_size _ rfl
  have F1 : Fr h₀ env.locals (s.heap.push (setIt a 0 0)) m := Fm.push _
  have N1 : News h₀ env.locals (s.heap.push (setIt a 0 0)) news := fun p hp => ⟨Heap.get?_push_of_some _ (N p hp).1, (N p hp).2⟩
  revert hI₀ hLI hNI hI1 F1 N1
  show _ → _ → _ → _ → _ → _ → wpAny _ _ (holding [.ref s.heap.objs.size] (draw (.ref s.heap.objs.size) 1) >>= _) _ _ { s with heap := s.heap.push (setIt a 0 0) }
  generalize s.heap.objs.size = I
  generalize s.heap.push (setIt a 0 0) = h1
  intro hI₀ hLI hNI hI1 F1 N1
  refine wpAny_bind (wpAny_holding ?_)
  unfold draw
  refine wpAny_bind (next_set1 (N1 _ hm).1 hI1 fun h2 x hs2 hI2 hx => ?_)
  have F2 : Fr h₀ env.locals h2 m := ⟨F1.ns.at' fun o e => (hs2.2 _ hLI).trans e, fun b o e => (hs2.2 b (fun q => by rw [q, hI₀] at e; cases e)).trans (F1.keep b o e), F1.above⟩
  have N2 : News h₀ env.locals h2 news := fun p hp => ⟨(hs2.2 _ (hNI p hp)).trans (N1 p hp).1, (N1 p hp).2⟩
  unfold draw
  refine wpAny_bind (wpAny_holding (wpAny_pure ?_))
  refine wpAny_pure ?_
  simp only [List.length_cons, List.length_nil, Nat.lt_irrefl, if_false]
  refine wpAny_bind (wpAny_holding (next_set1_end hh (N2 _ hm).1 hI2 hx fun h3 hs3 => ?_))
  have F3 : Fr h₀ env.locals h3 m := ⟨F2.ns.at' fun o e => hs3 _ _ hLI e, fun b o e => hs3 b o (fun q => by rw [q, hI₀] at e; cases e) (F2.keep b o e), F2.above⟩
  have N3 : News h₀ env.locals h3 news := fun p hp => ⟨hs3 _ _ (hNI p hp) (N2 p hp).1, (N2 p hp).2⟩
  simp only [Option.isSome_none, Bool.false_eq_true, if_false]
  refine wpAny_pure ?_
  refine wpAny_bind (wpAny_holding ?_)
  refine wpAny_assign_Name (wpAny_storeName_local hy F3.ns (fun h4 hn4 hs4 => ?_) hp)
  have hL₀ : h₀.get? env.locals = none := Heap.get?_none_of_le F3.above
  refine wpAny_pure (h h4 _ ⟨hn4, fun b o e => hs4.extBut b o (fun q => by rw [q, hL₀] at e; cases e) (F3.keep b o e), F3.above⟩ fun p hp => ⟨hs4.extBut _ _ (N3 p hp).2.1 (N3 p hp).1, (N3 p hp).2⟩)
theorem codeAny_compStart_set {R : Result → Shared → Prop} {elt target iter ifs rest scope pos it acc env}
    (h0 : codeAny (model prog w) A (.compLoop (.SetComp elt (⟨target, iter, ifs, 0⟩ :: rest) scope pos) 0 it acc env) R s)
    (h : wpAny (model prog w) A (pyIter it) (fun it' s' => codeAny (model prog w) A (.compLoop (.SetComp elt (⟨target, iter, ifs, 0⟩ :: rest) scope pos) 0 it' acc env) R s')
      (notedBy (model prog w) A env fun x s' => R (.error x) s') s) :
    codeAny (model prog w) A (.compStart (.SetComp elt (⟨target, iter, ifs, 0⟩ :: rest) scope pos) 0 it acc env) R s := by
  refine codeAny_of_tree ?_
  show wpAny _ _ ((compStart (.SetComp elt (⟨target, iter, ifs, 0⟩ :: rest) scope pos) 0 it acc env).onRaise (fun x => do noteFrame x env; standAt theWindowsPlace)) _ _ s
  refine wpAny_notedAt ?_
  unfold compStart
  show wpAny _ _ (ask >>= _) _ _ s
  refine wpAny_bind (wpAny_askSetting (wpAny_ite ?_))
  split
  · first
      | exact wpAny_bind (wpAny_pure (wpAny_pure (And.intro rfl h0)))
      | exact wpAny_pure (And.intro rfl h0)
  · first
      | exact wpAny_bind (wpAny_rule (wpAny_bind (wpAny_standAt (wpAny_bind (wpAny_mono h (fun it' s' h' => wpAny_pure (And.intro rfl h')) fun _ _ x => x)))))
      | (refine wpAny_bind (wpAny_rule ?_); show wpAny _ _ (standAt iter.pos >>= _) _ _ s; exact wpAny_bind (wpAny_standAt (wpAny_bind (wpAny_mono h (fun it' s' h' => wpAny_pure (And.intro rfl h')) fun _ _ x => x))))
theorem compTurn_set1 (elt target iter : Expr) (scope : Scope) (pos : Pos) (it acc : Value) (env : Env) :
    compTurn (.SetComp elt [⟨target, iter, [], 0⟩] scope pos) 0 it acc env = (standAt iter.pos >>= fun _ => pyNext it >>= fun r => match r with
      | none => pure (.done .next)
      | some v => letOwnedTupleGo target it v >>= fun _ => assign target env v >>= fun _ =>
        (eval elt env >>= fun x => standAt elt.pos >>= fun _ => call (.builtin "set.add") [acc, x] >>= fun _ => pure ()) >>= fun _ =>
          again (.compLoop (.SetComp elt [⟨target, iter, [], 0⟩] scope pos) 0 it acc env)) := by rfl
theorem codeAny_compLoop_set {R : Result → Shared → Prop} {elt target iter : Expr} {scope : Scope} {pos : Pos} {it acc : Value} {env : Env} (I : Nat → Shared → Prop)
    (turn : ∀ n s, I n s → wpAny (model prog w) A (pyNext it) (fun r s₁ => match r with
      | none => R (.ok .next) s₁
      | some v => wpAny (model prog w) A (assign target env v) (fun _ s₂ => wpAny (model prog w) A (eval elt env) (fun x s₃ =>
          wpAny (model prog w) A (call (.builtin "set.add") [acc, x]) (fun _ s₄ => ∃ m, m < n ∧ I m s₄) (notedBy (model prog w) A env fun e s' => R (.error e) s') s₃)
          (notedBy (model prog w) A env fun e s' => R (.error e) s') s₂) (notedBy (model prog w) A env fun e s' => R (.error e) s') s₁) (notedBy (model prog w) A env fun e s' => R (.error e) s') s)
    (n : Nat) (h : I n s) (ht : ∀ v, letOwnedTupleGo target it v = pure () := by intro _; rfl) :
    codeAny (model prog w) A (.compLoop (.SetComp elt [⟨target, iter, [], 0⟩] scope pos) 0 it acc env) R s := by
  refine codeAny_loop rfl I (fun n s hI => ?_) n h
  show wpAny _ _ ((compTurn (.SetComp elt [⟨target, iter, [], 0⟩] scope pos) 0 it acc env).onRaise (fun x => do noteFrame x env; theTreesLotGoes x)) _ _ s
  refine wpAny_noted ?_
  rw [compTurn_set1]
  refine wpAny_bind (wpAny_standAt (wpAny_bind (wpAny_mono (turn n s hI) (fun r s₁ h₁ => ?_) fun _ _ h' => h')))
  cases r with
  | none => exact wpAny_pure h₁
  | some v =>
    refine wpAny_bind (wpAny_of_eq (ht v) ?_)
    exact wpAny_bind (wpAny_mono h₁ (fun _ s₂ h₂ => wpAny_bind (wpAny_bind (wpAny_mono h₂ (fun x s₃ h₃ => wpAny_bind (wpAny_standAt (wpAny_bind (wpAny_mono h₃
      (fun _ s₄ h₄ => wpAny_pure (wpAny_pure ⟨rfl, h₄⟩)) fun _ _ h' => h')))) fun _ _ h' => h'))) fun _ _ h' => h')
def TupPost (s : Shared) (h₀ : Heap) (L : Addr) (m : Str → Option Value) (news : List (Addr × Obj)) (T : Addr) (xv : Value) (s₁ : Shared) : Prop :=
  xv = .ref T ∧ Fr h₀ L s₁.heap m ∧ News h₀ L s₁.heap news ∧ ∃ h' tk, s₁ = { s with heap := h', toks := tk }
def YesPost (s : Shared) (h₀ : Heap) (L : Addr) (m : Str → Option Value) (news : List (Addr × Obj)) (y : Value) (s₂ : Shared) : Prop :=
  y = .bool true ∧ ∃ h' tk', s₂ = { s with heap := h', toks := tk' } ∧ Fr h₀ L h' m ∧ News h₀ L h' news
open LCg LCp in
theorem SetComp_two {elt iter : Expr} {x : Str} {px : Pos} {scope : Scope} {cl : List (Str × Addr)} {pos : Pos} {Q : Value → Shared → Prop} {h₀ : Heap} {L : Addr} {m : Str → Option Value} {env : Env} {v1 v2 : Value} {T : Addr} {news : List (Addr × Obj)} (hh : A.handled = none) (_F₀ : Fr h₀ L s.heap m) (_N₀ : News h₀ L s.heap news)
    (hclos : closureFor scope env = pure cl) (hcell : ∀ y ∈ scope.names, y.2 ≠ .cell) (hkind : scope.kind = .function)
    (hnames : ∀ y ∈ scope.names, y.2 = .local → scope.names.lookup y.1 = some .local) (hx : scope.names.lookup x = some .local)
    (hiter : wpAny (model prog w) A (eval iter env) (TupPost s h₀ L m news T) E s)
    (hTm : ∀ h, News h₀ L h news → h.IsTuple T #[v1, v2])
    (turn : ∀ v I oI C oC D oD m₂ h tk (E' : Value → Shared → Prop), (v = v1 ∨ v = v2) → NsObj oC m₂ → m₂ x = some v → Fr h₀ L h m → News h₀ L h ((I, oI) :: (C, oC) :: (D, oD) :: news) →
      wpAny (model prog w) A (eval elt (compEnvC scope cl C env)) (YesPost s h₀ L m ((I, oI) :: (C, oC) :: (D, oD) :: news)) E' { s with heap := h, toks := tk })
    (fin : ∀ D h' tk, Fr h₀ L h' m → News h₀ L h' ((D, set1 (!byT prog w)) :: news) → (∀ p ∈ news, p.1 < D) → Q (.ref D) { s with heap := h', toks := tk })
    (hs : ∀ x, foldedSetIterable iter env x = pure x := by intro _; rfl) :
    wpAny (model prog w) A (eval (.SetComp elt [⟨.Name x px, iter, [], 0⟩] scope pos) env) Q E s := by
  show wpAny _ A (comprehension (.SetComp elt [⟨.Name x px, iter, [], 0⟩] scope pos) scope env _ (newSet (.type "set")) false (eval iter env) none) _ _ s
  refine wpAny_comprehension_free (use := none) rfl hs hclos hkind hnames (wpAny_mono hiter (fun xv s₁ h₁ => ?_) fun _ _ e => e)
  obtain ⟨rfl, F, N, h1, tk1, rfl⟩ := h₁
  have hl := hTm _ N
  have hlt : T < h1.objs.size := by obtain ⟨_, e, _⟩ := hl; exact Heap.lt_size e
  refine wpAny_pyIter_tuple hl ?_
  have hI1 : (h1.push { cls := .type "tuple_iterator", data := .fields #[.ref T, .int 0 0] }).IsTupleIter h1.objs.size T 0 := ⟨_, Heap.get?_push_size _ rfl, rfl, rfl⟩
  have up1 : ∀ b o, h1.get? b = some o → (h1.push { cls := .type "tuple_iterator", data := .fields #[.ref T, .int 0 0] }).get? b = some o := fun b o e => Heap.get?_push_of_some _ e
  have z1 : (h1.push { cls := .type "tuple_iterator", data := .fields #[.ref T, .int 0 0] }).objs.size = h1.objs.size + 1 := Heap.size_push ..
  have F1 : Fr h₀ L (h1.push { cls := .type "tuple_iterator", data := .fields #[.ref T, .int 0 0] }) m := F.keeps up1
  have N1 : News h₀ L (h1.push { cls := .type "tuple_iterator", data := .fields #[.ref T, .int 0 0] }) news := N.grown up1
  have hIL : L ≠ h1.objs.size := Nat.ne_of_lt F.ns.lt
  have hI₀ : h₀.get? h1.objs.size = none := next_is_new F
  have hNI : ∀ p ∈ news, p.1 ≠ h1.objs.size := fun p hp => Nat.ne_of_lt (Heap.lt_size (N p hp).1)
  have hTI : T ≠ h1.objs.size := Nat.ne_of_lt hlt
  have hIlt : h1.objs.size < h1.objs.size + 1 := Nat.lt_succ_self _
  rw [← z1] at hIlt
  clear F N hl hlt z1 up1 hiter
  revert hI1 F1 N1 hIL hI₀ hNI hTI hIlt
  show _ → _ → _ → _ → _ → _ → _ → _ → wpAny _ A (newSet (.type "set")) (fun acc s₃ => wpAny _ A (newFunctionEnv scope env.globals cl [] env.qual none .none (some env)) (fun cenv s₄ =>
      codeAny _ A (.compStart (.SetComp elt [⟨.Name x px, iter, [], 0⟩] scope pos) 0 (.ref h1.objs.size) acc { cenv with scope := relabel scope env }) (compPost _ A E none Q acc cenv.locals) s₄) E s₃) E { s with heap := h1.push { cls := .type "tuple_iterator", data := .fields #[.ref T, .int 0 0] }, toks := tk1 }
  generalize h1.objs.size = I
  generalize h1.push { cls := .type "tuple_iterator", data := .fields #[.ref T, .int 0 0] } = h2
  intro hI1 F1 N1 hIL hI₀ hNI hTI hIlt
  refine new_set ?_
  refine wpAny_newFunctionEnv hcell (by intro y hy; simp at hy) (fun h₁ hns₁ hsb₁ => ?_) hkind
  dsimp only at hns₁ hsb₁ ⊢
  generalize hH2 : h2.push (set0 (!byT prog w)) = H2 at hns₁ hsb₁ ⊢
  have hC : H2.objs.size = h2.objs.size + 1 := by rw [← hH2, Heap.size_push]
  have hDC : h2.objs.size ≠ H2.objs.size := by rw [hC]; exact Nat.ne_of_lt (Nat.lt_succ_self _)
  have below : ∀ b, b < h2.objs.size → b ≠ H2.objs.size ∧ b ≠ h2.objs.size := fun b hb => ⟨by rw [hC]; exact Nat.ne_of_lt (Nat.lt_succ_of_lt hb), Nat.ne_of_lt hb⟩
  have old : ∀ b o, h2.get? b = some o → h₁.get? b = some o := fun b o e => hsb₁.extBut b o (below b (Heap.lt_size e)).1 (Heap.get?_push_of_some _ (hH2 ▸ Heap.get?_push_of_some _ e))
  have hacc : h₁.get? h2.objs.size = some (set0 (!byT prog w)) := hsb₁.extBut _ _ hDC (Heap.get?_push_of_some _ (hH2 ▸ Heap.get?_push_size _ rfl))
  have fresh : ∀ a, h2.objs.size ≤ a → h2.get? a = none := fun a ha => by
    cases e : h2.get? a with
    | none => rfl
    | some o' => exact absurd (Heap.lt_size e) (Nat.not_lt.mpr ha)
  have fresh₀ : ∀ a, h2.objs.size ≤ a → h₀.get? a = none := fun a ha => by
    cases e : h₀.get? a with
    | none => rfl
    | some o' => have := F1.keep a o' e; rw [fresh a ha] at this; cases this
  have hD₀ : h₀.get? h2.objs.size = none := fresh₀ _ (Nat.le_refl _)
  have hC₀ : h₀.get? H2.objs.size = none := fresh₀ _ (by rw [hC]; exact Nat.le_succ _)
  have hLlt : L < h2.objs.size := F1.ns.lt
  have hDL : h2.objs.size ≠ L := Ne.symm (below L hLlt).2
  have hCL : H2.objs.size ≠ L := Ne.symm (below L hLlt).1
  have hCI : I ≠ H2.objs.size := (below I hIlt).1
  have hDI : I ≠ h2.objs.size := (below I hIlt).2
  have hNC : ∀ p ∈ news, p.1 ≠ H2.objs.size ∧ p.1 ≠ h2.objs.size := fun p hp => below _ (Heap.lt_size (N1 p hp).1)
  have hND : ∀ p ∈ news, p.1 < h2.objs.size := fun p hp => Heap.lt_size (N1 p hp).1
  have hst₁ : h₁.IsTupleIter I T 0 := by obtain ⟨o, ho, r⟩ := hI1; exact ⟨o, old _ _ ho, r⟩
  have F₁ : Fr h₀ L h₁ m := F1.keeps old
  have N₁ : News h₀ L h₁ ((h2.objs.size, set0 (!byT prog w)) :: news) := fun p hp => by
    rcases List.mem_cons.mp hp with rfl | hp
    · exact ⟨hacc, hDL, hD₀⟩
    · exact ⟨old _ _ (N1 p hp).1, (N1 p hp).2⟩
  clear hH2 hI1 F1 N1 hsb₁ old fresh fresh₀ hacc hLlt hC below hIlt hTI
  revert hDC hD₀ hC₀ hDL hCL hCI hDI hNC hND hst₁ F₁ N₁ hns₁
  generalize h2.objs.size = D
  generalize H2.objs.size = C
  intro hns₁ hDC hD₀ hC₀ hDL hCL hCI hDI hNC hND hst₁ F₁ N₁
  have hNT : ∀ {h' : Heap} {o : Obj}, News h₀ L h' ((D, o) :: news) → h'.IsTuple T #[v1, v2] := fun N' => hTm _ fun p hp => N' p (List.mem_cons_of_mem _ hp)
  have hTI : T ≠ I := by
    intro e
    obtain ⟨o, ho, hc, _⟩ := hst₁
    obtain ⟨o', ho', hc', _⟩ := hNT N₁
    rw [e, ho] at ho'
    obtain rfl := Option.some.inj ho'
    exact absurd (hc.symm.trans hc') (by decide)
  have loop : ∀ tk, codeAny (model prog w) A (.compLoop (.SetComp elt [⟨.Name x px, iter, [], 0⟩] scope pos) 0 (.ref I) (.ref D) (compEnvC scope cl C env)) (compPost (model prog w) A E none Q (.ref D) C) { s with heap := h₁, toks := tk } := by
    intro tk0
    refine codeAny_compLoop_set (fun k s' => ∃ h' tk i m', s' = { s with heap := h', toks := tk } ∧ i ≤ 2 ∧ k = 3 - i ∧ h'.IsTupleIter I T i ∧ Fr h₀ L h' m ∧ h'.Ns C m' ∧ News h₀ L h' ((D, if i = 0 then set0 (!byT prog w) else set1 (!byT prog w)) :: news)) ?_ 3
      ⟨h₁, _, 0, _, rfl, by omega, rfl, hst₁, F₁, hns₁, N₁⟩
    rintro k s' ⟨h', tk, i, m', rfl, hi, rfl, hst', F', hn', N'⟩
    have W := Walks.tuple (prog := prog) (w := w) hh I T hTI #[v1, v2]
    by_cases hlt : i < 2
    · refine W.item i _ _ _ hlt ⟨hst', hNT N'⟩ fun v h₂ tk₂ hPv hst₂ hk₂ => ?_
      refine wpAny_assign_Name (wpAny_storeName_local (lookup_relabel_local hx) (hn'.at' fun o e => hk₂ _ o (by simpa using Ne.symm hCI) e) (fun h₃ hn₃ hs₃ => ?_) (by simp [compEnvC, relabel, hkind]))
      have hIo : ∃ oI, h₃.get? I = some oI ∧ oI.cls = .type "tuple_iterator" ∧ oI.data = .fields #[.ref T, .int ((i + 1 : Nat) : Int) 0] := by
        obtain ⟨o, ho, r⟩ := hst₂.1
        exact ⟨o, hs₃.extBut _ _ hCI ho, r⟩
      obtain ⟨oI, heI, hcI⟩ := hIo
      obtain ⟨oC, heC, hoC⟩ := ns_obj hn₃
      have F₃ : Fr h₀ L h₃ m := (fr_but F' hk₂ hIL hI₀).change hs₃ hCL hC₀
      have N₂ : News h₀ L h₂ ((D, if i = 0 then set0 (!byT prog w) else set1 (!byT prog w)) :: news) := news_but N' hk₂ fun p hp => by
        rcases List.mem_cons.mp hp with rfl | hp
        · exact Ne.symm hDI
        · exact hNI p hp
      have N₃ : News h₀ L h₃ ((I, oI) :: (C, oC) :: (D, if i = 0 then set0 (!byT prog w) else set1 (!byT prog w)) :: news) := fun p hp => by
        rcases List.mem_cons.mp hp with rfl | hp
        · exact ⟨heI, Ne.symm hIL, hI₀⟩
        · rcases List.mem_cons.mp hp with rfl | hp
          · exact ⟨heC, hCL, hC₀⟩
          · have z := N₂ p hp
            refine ⟨hs₃.extBut _ _ ?_ z.1, z.2⟩
            rcases List.mem_cons.mp hp with rfl | hp
            · exact hDC
            · exact (hNC p hp).1
      have hv : v = v1 ∨ v = v2 := by
        rcases Nat.lt_succ_iff_lt_or_eq.mp hlt with h0 | h1
        · have : i = 0 := by omega
          subst this; left; simpa using hPv.symm
        · subst h1; right; simpa using hPv.symm
      refine wpAny_mono (turn v I oI C oC D _ _ h₃ _ _ hv hoC (by simp) F₃ N₃) (fun y s₄ h₄ => ?_) fun _ _ e => e
      obtain ⟨rfl, h₄, tk₄, rfl, F₄, N₄⟩ := h₄
      have zI := (N₄ (I, oI) List.mem_cons_self).1
      have zC := (N₄ (C, oC) (List.mem_cons_of_mem _ List.mem_cons_self)).1
      have zD := (N₄ (D, _) (List.mem_cons_of_mem _ (List.mem_cons_of_mem _ List.mem_cons_self))).1
      have N₄' : News h₀ L h₄ news := fun p hp => N₄ p (List.mem_cons_of_mem _ (List.mem_cons_of_mem _ (List.mem_cons_of_mem _ hp)))
      by_cases hi0 : i = 0
      · subst hi0
        simp only [if_true] at zD
        refine set_add_new zD fun h₅ hs₅ hD₅ => ?_
        refine ⟨2, by omega, h₅, _, 1, _, rfl, by omega, rfl, ⟨oI, hs₅.extBut _ _ hDI zI, hcI⟩, F₄.change hs₅ hDL hD₀, (hoC.ns zC).sameBut hs₅ (Ne.symm hDC), fun p hp => ?_⟩
        rcases List.mem_cons.mp hp with rfl | hp
        · exact ⟨hD₅, hDL, hD₀⟩
        · exact ⟨hs₅.extBut _ _ (hNC p hp).2 (N₄' p hp).1, (N₄' p hp).2⟩
      · have hi1 : i = 1 := by omega
        subst hi1
        refine set_add_again zD ?_
        refine ⟨1, by omega, h₄, _, 2, _, rfl, by omega, rfl, ⟨oI, zI, hcI⟩, F₄, hoC.ns zC, fun p hp => ?_⟩
        rcases List.mem_cons.mp hp with rfl | hp
        · exact ⟨zD, hDL, hD₀⟩
        · exact N₄' p hp
    · obtain rfl : i = 2 := by omega
      refine W.done _ _ _ ⟨hst', hNT N'⟩ fun h₂ tk₂ hk₂ => ?_
      have F₂ := fr_but F' hk₂ hIL hI₀
      have N₂ : News h₀ L h₂ ((D, set1 (!byT prog w)) :: news) := news_but N' hk₂ fun p hp => by
        rcases List.mem_cons.mp hp with rfl | hp
        · exact Ne.symm hDI
        · exact hNI p hp
      refine ⟨_, hn'.at' fun o e => hk₂ _ o (by simpa using Ne.symm hCI) e, fun h'' hs'' => fin D h'' tk₂ (F₂.change hs'' hCL hC₀) (fun p hp => ?_) hND⟩
      refine ⟨hs''.extBut _ _ ?_ (N₂ p hp).1, (N₂ p hp).2⟩
      rcases List.mem_cons.mp hp with rfl | hp
      · exact hDC
      · exact (hNC p hp).1
  have W := Walks.tuple (prog := prog) (w := w) hh I T hTI #[v1, v2]
  exact codeAny_compStart_set (loop _) (W.self 0 _ _ _ ⟨hst₁, hNT N₁⟩ (loop _))
end

def OkPost (s : Shared) (h₀ : Heap) (L : Addr) (m : Str → Option Value) (nw : List (Addr × Obj)) (b : Bool) (ok : Bool) (s' : Shared) : Prop :=
  ok = b ∧ ∃ h' tk, s' = { s with heap := h', toks := tk } ∧ Fr h₀ L h' m ∧ News h₀ L h' nw
def TxPost (s : Shared) (h₀ : Heap) (L : Addr) (m : Str → Option Value) (nw : List (Addr × Obj)) (q : List Nat) (y : Value) (s' : Shared) : Prop :=
  (∃ t, y = .str (tx q) t) ∧ ∃ h' tk, s' = { s with heap := h', toks := tk } ∧ Fr h₀ L h' m ∧ News h₀ L h' nw
open LCg LCt in
/-- a comprehension that keeps the texts that pass -/
theorem rest_filter {prog : Program} {w : World} {A : Around} {s : Shared} {h₀ : Heap} {L : Addr} {m : Str → Option Value} {env : Env} {ct elt : Expr} {x : Str} {scope : Scope} {cl : List (Str × Addr)} {S : List (Addr × Obj) → Prop} {vs : List Value} {ps : List (List Nat)} {news : List (Addr × Obj)}
    {Fin : List Value → List (Addr × Obj) → Prop} (pred : List Nat → Bool) (hv : Txs vs ps) (hS : S news)
    (test : ∀ q tq I oI C oC D ys m₂ h tk (E' : Value → Shared → Prop), q ∈ ps → NsObj oC m₂ → m₂ x = some (.str (tx q) tq) → Fr h₀ L h m → News h₀ L h ((I, oI) :: (C, oC) :: (D, lst ys) :: news) →
      wpAny (model prog w) A (isTrue ct (compEnvC scope cl C env) (eval ct (compEnvC scope cl C env))) (OkPost s h₀ L m ((I, oI) :: (C, oC) :: (D, lst ys) :: news) (pred q)) E' { s with heap := h, toks := tk })
    (take : ∀ q tq I oI C oC D ys m₂ h tk (E' : Value → Shared → Prop), q ∈ ps → NsObj oC m₂ → m₂ x = some (.str (tx q) tq) → Fr h₀ L h m → News h₀ L h ((I, oI) :: (C, oC) :: (D, lst ys) :: news) →
      wpAny (model prog w) A (eval elt (compEnvC scope cl C env)) (TxPost s h₀ L m ((I, oI) :: (C, oC) :: (D, lst ys) :: news) q) E' { s with heap := h, toks := tk })
    (fin : ∀ us, Txs us (ps.filter pred) → us.length = (ps.filter pred).length → Fin us news) :
    CompRestT prog w A h₀ L m env ct elt x scope cl s S (fun i v => vs.toArray[i]? = some v) Fin vs.toArray.size 0 [] news := by
  have hl := hv.length
  have main : ∀ k i ys, i + k = vs.length → Txs ys ((ps.take i).filter pred) → CompRestT prog w A h₀ L m env ct elt x scope cl s S (fun i v => vs.toArray[i]? = some v) Fin k i ys news := by
    intro k
    induction k with
    | zero =>
      intro i ys hi hy
      refine CompRestT.zero (fin ys ?_ ?_)
      · rw [List.take_of_length_le (by omega)] at hy; exact hy
      · rw [List.take_of_length_le (by omega)] at hy; exact hy.length
    | succ k ih =>
      intro i ys hi hy
      refine CompRestT.succ ?_
      intro v I oI C oC D m₂ h tk E' hPv hC hx F N off ne
      have hPv' : vs[i]? = some v := by simpa using hPv
      obtain ⟨q, tq, rfl, hq⟩ := hv.get hPv'
      have hmem : q ∈ ps := List.mem_of_getElem? hq
      have htk : (ps.take (i + 1)).filter pred = (ps.take i).filter pred ++ (if pred q then [q] else []) := take_succ_filter pred ps i q hq
      refine wpAny_mono (test q tq I oI C oC D ys m₂ h tk E' hmem hC hx F N) (fun ok s' hok => ?_) fun _ _ e => e
      obtain ⟨rfl, h', tk', rfl, F', N'⟩ := hok
      cases hp : pred q with
      | true =>
        rw [hp] at htk
        simp only [if_true] at htk ⊢
        refine wpAny_mono (take q tq I oI C oC D ys m₂ h' tk' E' hmem hC hx F' N') (fun y s'' hy' => ?_) fun _ _ e => e
        obtain ⟨⟨t, rfl⟩, h'', tk'', rfl, F'', N''⟩ := hy'
        refine CompEnd.intro F'' N'' news (fun p hp => hp) off hS (ih (i + 1) _ (by omega) ?_)
        rw [htk]
        exact hy.snoc q t
      | false =>
        rw [hp] at htk
        simp only [Bool.false_eq_true, if_false, List.append_nil] at htk ⊢
        refine CompEnd.intro F' N' news (fun p hp => hp) off hS (ih (i + 1) _ (by omega) ?_)
        rw [htk]
        exact hy
  have := main vs.length 0 [] (by omega) (by simpa using Txs.nil)
  simpa using this
open LCg in
theorem endOne {h₀ : Heap} {L I C D : Addr} {m : Str → Option Value} {s₁ : Shared} {oI oC oD : Obj} {S : List (Addr × Obj) → Prop} {rp : Value → List (Addr × Obj) → Prop} {y : Value} {h' : Heap} {tk : Nat} {x : Addr × Obj} {rest : List (Addr × Obj)}
    (F : Fr h₀ L h' m) (N : News h₀ L h' (x :: (I, oI) :: (C, oC) :: (D, oD) :: rest)) (o1 : Off1 x.1 ((I, oI) :: (C, oC) :: (D, oD) :: rest)) (off : Off3 I C D rest) (hS : S (x :: rest)) (r : rp y (x :: rest)) :
    CompEnd h₀ L m s₁ I oI C oC D oD S rp y { s₁ with heap := h', toks := tk } :=
  CompEnd.intro (I := I) (C := C) (D := D) (oI := oI) (oC := oC) (oD := oD) F N (x :: rest) (fun p hp => by
    simp only [List.mem_cons] at hp ⊢
    rcases hp with h | h | h | h | h
    · exact .inr (.inl h)
    · exact .inr (.inr (.inl h))
    · exact .inr (.inr (.inr (.inl h)))
    · exact .inl h
    · exact .inr (.inr (.inr (.inr h)))) ⟨⟨o1.1.symm, o1.2.1.symm, o1.2.2.1.symm⟩, off⟩ hS r
def HoldC : Prop := True
def HoldE : Prop := True
local macro_rules | `(tactic| walk_at "eval ListComp") => `(tactic| (k_here; (with_reducible rename HoldE => hmark); refine held ?_))
local macro_rules | `(tactic| walk_at "CompSrcT") => `(tactic| (k_here; (with_reducible rename HoldE => hmark); refine held ?_))
local macro_rules | `(tactic| walk_at "exec Try") => `(tactic| (k_here; (with_reducible show wpAny _ _ (exec (Stmt.Try _ (_ :: _) _ [] _) (envOfC _ _ _ _ _)) _ _ _); refine wpAny_Try_except ?_))
local macro_rules | `(tactic| walk_at "exec Assign cons ListComp") => `(tactic| (k_here; (with_reducible rename HoldC => hmark); refine held ?_))

/-- the parts after the first slash -/
def rz (row : List (List Nat)) : List (List Nat) := if row = [] then [[]] else row
theorem slash_jn (row : List (List Nat)) : 47 :: jn 47 row = jn 47 ([] :: rz row) := by
  unfold rz
  cases row with
  | nil => rfl
  | cons a r => rfl
theorem rz_starts (row : List (List Nat)) : Txt.startswith (tx (jn 47 ([] :: rz row))) (Str.ofString "/") = true := by
  rw [← slash_jn, lit_slash, starts_one]; simp
theorem rz_filter {row : List (List Nat)} (h : ∀ p ∈ row, Nm p) : ([] :: rz row).filter (fun q => !q.isEmpty && q != [46]) = row := by
  unfold rz
  rw [List.filter_cons, if_neg (by decide)]
  split
  · rename_i e; rw [e]; rfl
  · rw [List.filter_eq_self]
    intro p hp
    obtain ⟨⟨h1, _⟩, h2, _⟩ := h p hp
    simp [h1, h2]
theorem rz_len {row : List (List Nat)} : (rz row).length ≤ row.length + 1 := by
  unfold rz; split <;> simp
theorem take_alk : ∀ a b : List (List Nat), a.take (alk a b) = b.take (alk a b)
  | [], b => by cases b <;> simp [alk]
  | x :: r, [] => by simp [alk]
  | x :: r, y :: t => by
    simp only [alk]
    split
    · rename_i e
      subst e
      have := take_alk r t
      simp only [List.take_succ_cons, this]
    · simp
/-- the lesser and the greater of two rows -/
theorem two_rows {row there : List (List Nat)} {us us2 : List Value} {D1 D2 : Addr} {nw : List (Addr × Obj)} (hus : Txs us row) (hus2 : Txs us2 there) (h1 : (D1, LCg.lst us) ∈ nw) (h2 : (D2, LCg.lst us2) ∈ nw) (hl1 : row.length ≤ 1000) (hl2 : there.length ≤ 1000) :
    ∃ x y xv yv xs ys, (if lexLt there row = true then D2 else D1) = x ∧ (if lexLt row there = true then D2 else D1) = y ∧ (x, LCg.lst xv) ∈ nw ∧ (y, LCg.lst yv) ∈ nw ∧
      Txs xv xs ∧ Txs yv ys ∧ lexLt ys xs = false ∧ xs.take (alk xs ys) = row.take (alk row there) ∧ xs.length ≤ 1000 ∧ ys.length ≤ 1000 := by
  cases c1 : lexLt there row with
  | true =>
    have c2 := lexLt_asymm _ _ c1
    rw [c2]
    exact ⟨D2, D1, us2, us, there, row, rfl, rfl, h2, h1, hus2, hus, c2, by rw [alk_comm there row, take_alk row there], hl2, hl1⟩
  | false =>
    cases c2 : lexLt row there with
    | true => exact ⟨D1, D2, us, us2, row, there, rfl, rfl, h1, h2, hus, hus2, c1, rfl, hl1, hl2⟩
    | false =>
      have e := lexLt_eq _ _ c1 c2
      exact ⟨D1, D1, us, us, row, row, rfl, rfl, h1, h1, hus, hus, by rw [e] at c1; exact c1, by rw [e], hl1, hl1⟩
theorem newsCons {h₀ h : Heap} {L : Addr} {p : Addr × Obj} {news : List (Addr × Obj)} (N : News h₀ L h news) (hp : p ∈ news) : News h₀ L h (p :: news) := fun q hq => (List.mem_cons.mp hq).elim (fun e => e ▸ N p hp) (N q)
theorem noIt_ref {o : Obj} {v : Option Value} (h : o.data = .cell v) : itc o = false := by unfold itc; rw [h]; exact Bool.and_false _
theorem cpSmall {h₀ h : Heap} {L x y c1 c2 : Addr} {ox oy o1 o2 : Obj} {news : List (Addr × Obj)} (N : News h₀ L h news) (hx : (x, ox) ∈ news) (hy : (y, oy) ∈ news) (h1 : (c1, o1) ∈ news) (h2 : (c2, o2) ∈ news) : News h₀ L h [(x, ox), (y, oy), (c1, o1), (c2, o2)] :=
  List.forall_mem_cons.mpr ⟨N _ hx, List.forall_mem_cons.mpr ⟨N _ hy, List.forall_mem_cons.mpr ⟨N _ h1, List.forall_mem_cons.mpr ⟨N _ h2, fun _ h => nomatch h⟩⟩⟩⟩
def ExitP (s : Shared) (h₀ : Heap) (L : Addr) (J : (Str → Option Value) → List (Addr × Obj) → Prop) (f : Flow) (s₂ : Shared) : Prop :=
  f = .next ∧ ∃ h' tk m' nx, s₂ = { s with heap := h', toks := tk } ∧ Fr h₀ L h' m' ∧ News h₀ L h' nx ∧ J m' nx
theorem forMono {prog : Program} {w : World} {A : Around} {s : Shared} {env : Env} {E : Value → Shared → Prop} {Q Q' : Flow → Shared → Prop} {tgt : Expr} {v : Value} {body : List Stmt} (k : ∀ f s₂, Q' f s₂ → Q f s₂)
    (h : wpAny (model prog w) A (pyIter v) (fun it s₂ => codeAny (model prog w) A (.forLoop tgt it body [] env) (fun r s' => match r with | .ok f => Q' f s' | .error e => cameBackBy (model prog w) A env E e s') s₂) E s) :
    wpAny (model prog w) A (pyIter v) (fun it s₂ => codeAny (model prog w) A (.forLoop tgt it body [] env) (fun r s' => match r with | .ok f => Q f s' | .error e => cameBackBy (model prog w) A env E e s') s₂) E s :=
  wpAny_mono h (fun it s₂ h₂ => codeAny_mono h₂ fun r s' hr => by
    cases r with
    | ok f => exact k f s' hr
    | error e => exact hr) fun _ _ e => e
theorem cpath_ok {w : World} {A : Around} {E : Value → Shared → Prop} {s : Shared} {V : Program} {Lo : List Str} {mg mb : Str → Option Value} {Q : Value → Shared → Prop} {row there : List (List Nat)} {t u : Tok} {D : Addr} {n : Nat}
  (X : (hd.heap_1 w.params).In s.heap) (T : TR V Lo mg mb s.heap) (hdp : A.depth + 30 < recursionLimit) (hu : A.units + 200 < cLine) (hh : A.handled = none)
  (hD : s.heap.get? D = some (listOf [.str (tx (47 :: jn 47 row)) t, .str (tx (47 :: jn 47 there)) u].toArray n))
  (hrow : ∀ p ∈ row, Nm p) (hthere : ∀ p ∈ there, Nm p) (hz1 : (tx (47 :: jn 47 row)).length ≤ 1000) (hz2 : (tx (47 :: jn 47 there)).length ≤ 1000)
  (h : ∀ h' t' u, s.heap.StaysIn h' → Q (.str (tx (47 :: jn 47 (row.take (alk row there)))) u) { s with heap := h', toks := t' }) :
  wpAny (model Pg w) A (call (.ref 156) [.ref D]) Q E s := by
  have hl1 : row.length ≤ 1000 := by
    have := jn_len (c := 47) (ps := row) (fun p hp => (hrow p hp).1.1)
    simp only [tx_len, List.length_cons] at hz1; omega
  have hl2 : there.length ≤ 1000 := by
    have := jn_len (c := 47) (ps := there) (fun p hp => (hthere p hp).1.1)
    simp only [tx_len, List.length_cons] at hz2; omega
  have hf1 : ∀ p ∈ [] :: rz row, 47 ∉ p := by
    intro p hp
    rcases List.mem_cons.mp hp with rfl | hp
    · simp
    · unfold rz at hp
      split at hp
      · rw [List.mem_singleton.mp hp]; simp
      · exact (hrow p hp).1.2
  have hf2 : ∀ p ∈ [] :: rz there, 47 ∉ p := by
    intro p hp
    rcases List.mem_cons.mp hp with rfl | hp
    · simp
    · unfold rz at hp
      split at hp
      · rw [List.mem_singleton.mp hp]; simp
      · exact (hthere p hp).1.2
  have hq1 : ([] :: rz row).length ≤ 1002 := by have := rz_len (row := row); simp only [List.length_cons]; omega
  have hq2 : ([] :: rz there).length ≤ 1002 := by have := rz_len (row := there); simp only [List.length_cons]; omega
  have hne1 : [] :: rz row ≠ [] := by simp
  have hne2 : [] :: rz there ≠ [] := by simp
  rw [slash_jn row] at hD hz1
  rw [slash_jn there] at hD hz2
  obtain ⟨hd0, d0, fr0, gu0, un0⟩ := A
  dsimp only at hh hdp hu
  subst hh
  w_on
  refine' enterC (K := hd.heap_1 w.params) (args := ⟨[.ref D], []⟩) (binds := [(Str.ofString "paths", .ref D)]) X T ?k1 ?k2 ?k3 ?k4 ?k5 ?k9 ?_ ?k6 ?k7 ?k8
  case k1 => k_is
  case k2 => k_is
  case k3 => k_room
  case k4 => exact BindsTo.of_eq rfl
  case k5 => exact rfl
  case k9 => decide +kernel
  case k6 => exact rfl
  case k7 => exact rfl
  case k8 => exact rfl
  intro L' h₁ tk cells F N C
  k_cells C
  try dsimp only
  try simp only [List.cons_append, List.nil_append] at N
  k_unmd
  k_fold
  k_steps
  (with_reducible rename Fr _ _ _ _ => kF)
  (with_reducible rename News _ _ _ _ => kN0)
  refine withNews kN0 (fun nw hnw kN => ?_)
  clear kN0
  refine call_map (xs := #[.str (tx (jn 47 ([] :: rz row))) t, .str (tx (jn 47 ([] :: rz there))) u]) ⟨_, kF.keep _ _ hD, rfl, n, rfl⟩ ?_
  intro h' I T' M hM hT' hit hIs hIT hIM hTM hMs st
  have F1 := frGo kF st
  have N1 := newsGo kN st
  have hIn : ∀ p ∈ nw, p.1 ≠ I := fun p hp => Nat.ne_of_lt (Nat.lt_of_lt_of_le (Heap.lt_size (kN p hp).1) hIs)
  have hLI : L' ≠ I := Nat.ne_of_lt (Nat.lt_of_lt_of_le kF.ns.lt hIs)
  have hDI : D ≠ I := Nat.ne_of_lt (Nat.lt_of_lt_of_le (Heap.lt_size (kF.keep _ _ hD)) hIs)
  have hKI : ∀ d o, s.heap.get? d = some o → d ≠ I := fun d o e => Nat.ne_of_lt (Nat.lt_of_lt_of_le (Heap.lt_size (kF.keep _ _ e)) hIs)
  clear kF kN
  k_steps
  refine call_tuple_map rfl hM hT' hit ⟨_, F1.keep _ _ hD, rfl, n, rfl⟩ hIM hIT (Ne.symm hDI) (fun s' x Q' hx kp hq => ?_) ?_
  · have st' : s.heap.StaysIn s'.heap := fun d o e => kp d o (hKI d o e) (F1.keep d o e)
    rcases hx with rfl | rfl
    · refine fspath_ok (X.keeps st') (T.keeps st') ?_ ?_ ?_
      · k_room
      · k_units
      · exact fun _ _ st => hq _ _ st
    · refine fspath_ok (X.keeps st') (T.keeps st') ?_ ?_ ?_
      · k_room
      · k_units
      · exact fun _ _ st => hq _ _ st
  intro D' h'' tk' kp hlt hD'
  have F2 : Fr s.heap L' h'' _ := ⟨F1.ns.at' fun o e => kp _ o hLI e, fun b o e => kp b o (hKI b o e) (F1.keep b o e), F1.above⟩
  have N2 : News s.heap L' h'' nw := fun p hp => ⟨kp _ _ (hIn p hp) (N1 p hp).1, (N1 p hp).2⟩
  have hDL : L' < D' := by
    obtain ⟨o, _, _, ho, _⟩ := F1.ns
    exact hlt _ _ hLI ho
  have N3 : News s.heap L' h'' ((D', { cls := .type "tuple", data := .seq #[.str (tx (jn 47 ([] :: rz row))) t, .str (tx (jn 47 ([] :: rz there))) u] }) :: nw) := by
    intro p hp
    rcases List.mem_cons.mp hp with rfl | hp
    · exact ⟨hD', Nat.ne_of_gt hDL, Heap.get?_none_of_le (Nat.le_trans F1.above (Nat.le_of_lt hDL))⟩
    · exact N2 p hp
  have l1 : ∀ p ∈ nw, p.1 < D' := fun p hp => hlt _ _ (hIn p hp) (N1 p hp).1
  clear F1 N1 N2 kp hlt hIn hKI hit hM hT' st
  subst hnw
  k_lt l1
  k_sweep
  have hmk : HoldC := True.intro
  k_steps
  rename HoldC => hmk
  clear hmk
  unfold Held
  refine LCp.Assign_SrcTU (F₀ := by k_asm) (by rfl) (by with_unfolding_all rfl) (by rfl) (by decide) (by rfl) (by decide) (by rfl) (by rfl) (by rfl) ?_
  k_steps
  refine ⟨D', _, _, rfl, rfl, by assumption, by assumption, .inr ⟨_, by k_mem, rfl, _, rfl⟩, by first | size_fits | exact Nat.le_of_ble_eq_true rfl, ?_⟩
  intro g'
  lcg_lit
  k_steps
  (with_reducible rename Fr _ _ _ _ => kF)
  (with_reducible rename News _ _ _ _ => kN)
  refine SetComp_two (T := D') (v1 := .str (tx (jn 47 ([] :: rz row))) t) (v2 := .str (tx (jn 47 ([] :: rz there))) u) rfl kF kN (by rfl) (by decide) (by rfl) (by decide) (by rfl) ?jit ?jtm ?jtu ?jfi
  case jtm =>
    intro hx N
    exact News.isTup N (by k_mem)
  case jit =>
    k_steps
    exact ⟨rfl, by assumption, by assumption, _, _, rfl⟩
  case jtu =>
    intro v I oI C oC D oD m₂ h tk E' hv hC hx F N
    clear kF kN
    rcases hv with rfl | rfl
    · k_steps
      exact ⟨congrArg Value.bool (rz_starts row), _, _, rfl, by assumption, by assumption⟩
    · k_steps
      exact ⟨congrArg Value.bool (rz_starts there), _, _, rfl, by assumption, by assumption⟩
  case jfi =>
    intro D' h' tk F N l1
    clear kF kN
    refine unpack_set1 rfl F N (by k_mem) rfl (by rfl) (by rfl) ?_
    intro h' tk F' N'
    clear F N
    try dsimp only
    have hmk : HoldE := True.intro
    k_steps
    unfold Held
    refine LCt.ListComp_T (F₀ := by k_asm) (by with_unfolding_all rfl) (by decide) (by rfl) (by decide) (by rfl) ?_
    k_steps
    unfold Held
    refine LCt.CompSrcT.ledger (by rfl) (by k_asm) (by k_asm) (by k_mem) (by rw [List.size_toArray, sizeLine_eq]; omega) ?_
    intro g'
    dsimp only
    refine rest_filter (fun q => !q.isEmpty && q != [46]) (by assumption) ?jS1 ?jt1 ?jk1 ?_
    case jS1 => exact .inr ⟨_, by k_mem, rfl, _, rfl⟩
    case jt1 =>
      intro q tq I oI C oC D ys m₂ h tk E' hq hC hx F N
      have hzq : (tx q).length ≤ 1000 := by
        have := jn_mem_len (c := 47) hq
        rw [tx_len] at hz1 ⊢; omega
      by_cases e1 : q = []
      · subst e1
        k_steps
        exact ⟨rfl, _, _, rfl, by assumption, by assumption⟩
      · have e2 : q.isEmpty = false := List.isEmpty_eq_false_iff.mpr e1
        have e3 : (!q.isEmpty && q != [46]) = (q != [46]) := by rw [e2]; rfl
        rw [e3]
        k_steps
        all_goals
          rename (tx q != Str.ofString ".") = _ => ha
          rw [lit_dot, tx_bne] at ha
          exact ⟨ha.symm, _, _, rfl, by assumption, by assumption⟩
    case jk1 =>
      intro q tq I oI C oC D ys m₂ h tk E' hq hC hx F N
      k_steps
      exact ⟨⟨_, rfl⟩, _, _, rfl, by assumption, by assumption⟩
    intro us hus hul
    rw [rz_filter hrow] at hus hul
    unfold LCg.FinE
    intro D1 h1 tk1 F1 N1 o1
    refine endOne F1 N1 o1 ?_ (Or.inr ⟨_, by k_mem, rfl, _, rfl⟩) ?_
    · simp only [LCg.Off3, and_true]; assumption
    k_steps
    unfold Held
    refine LCt.ListComp_T (F₀ := by k_asm) (by with_unfolding_all rfl) (by decide) (by rfl) (by decide) (by rfl) ?_
    k_steps
    unfold Held
    refine LCt.CompSrcT.ledger (by rfl) (by k_asm) (by k_asm) (by k_mem) (by rw [List.size_toArray, sizeLine_eq]; omega) ?_
    intro g'
    dsimp only
    refine rest_filter (fun q => !q.isEmpty && q != [46]) (by assumption) ?jS2 ?jt2 ?jk2 ?_
    case jS2 => exact .inr ⟨_, by k_mem, rfl, _, rfl⟩
    case jt2 =>
      intro q tq I oI C oC D ys m₂ h tk E' hq hC hx F N
      have hzq : (tx q).length ≤ 1000 := by
        have := jn_mem_len (c := 47) hq
        rw [tx_len] at hz2 ⊢; omega
      by_cases e1 : q = []
      · subst e1
        k_steps
        exact ⟨rfl, _, _, rfl, by assumption, by assumption⟩
      · have e2 : q.isEmpty = false := List.isEmpty_eq_false_iff.mpr e1
        have e3 : (!q.isEmpty && q != [46]) = (q != [46]) := by rw [e2]; rfl
        rw [e3]
        k_steps
        all_goals
          rename (tx q != Str.ofString ".") = _ => ha
          rw [lit_dot, tx_bne] at ha
          exact ⟨ha.symm, _, _, rfl, by assumption, by assumption⟩
    case jk2 =>
      intro q tq I oI C oC D ys m₂ h tk E' hq hC hx F N
      k_steps
      exact ⟨⟨_, rfl⟩, _, _, rfl, by assumption, by assumption⟩
    intro us2 hus2 hul2
    rw [rz_filter hthere] at hus2 hul2
    unfold LCg.FinE
    intro D2 h2 tk2 F2 N2 o2
    refine endOne F2 N2 o2 ?_ (Or.inr ⟨_, by k_mem, rfl, _, rfl⟩) ?_
    · simp only [LCg.Off3, and_true]; assumption
    k_steps
    (with_reducible rename Fr _ _ _ _ => kF)
    (with_reducible rename News _ _ _ _ => kN)
    refine withNews kN (fun nw hnw kN' => ?_)
    obtain ⟨x, y, xv, yv, xs, ys, ex, ey, hxm, hym, hxt, hyt, hlex, hres, hxz, hyz⟩ := two_rows (nw := nw) hus hus2 (by rw [hnw]; k_mem) (by rw [hnw]; k_mem) hl1 hl2
    unfold Held
    refine min_two (a := D1) (b := D2) rfl (kN _ (by k_mem)).1 (lexLt there row) (fun s' Q E st hq => lt_lists hus2 hus (st _ _ (kN (D2, LCg.lst us2) (by k_mem)).1) (st _ _ (kN (D1, LCg.lst us) (by k_mem)).1) (by k_units) hq) ?_
    intro h' k' st
    rw [ex]
    clear kN'
    walk_at "my:carry"
    k_steps
    (with_reducible rename Fr _ _ _ _ => kF)
    (with_reducible rename News _ _ _ _ => kN)
    unfold Held
    refine max_two (a := D1) (b := D2) rfl (kN _ (by k_mem)).1 (lexLt row there) (fun s' Q E st hq => gt_lists hus2 hus (st _ _ (kN (D2, LCg.lst us2) (by k_mem)).1) (st _ _ (kN (D1, LCg.lst us) (by k_mem)).1) (by k_units) hq) ?_
    intro h' k' st
    rw [ey]
    walk_at "my:carry"
    k_steps
    (with_reducible rename Fr _ _ _ _ => kF)
    (with_reducible rename News _ _ _ _ => kN)
    have hxp : xv.length = xs.length := hxt.length
    have hyp : yv.length = ys.length := hyt.length
    have hxu : xv.length ≤ 1000 := by omega
    have hyu : yv.length ≤ 1000 := by omega
    have kN2 := cpSmall (c1 := L' + 1 + 1) (c2 := L' + 1) kN (x := x) (y := y) (by rw [← hnw]; exact hxm) (by rw [← hnw]; exact hym) (by k_mem) (by k_mem)
    clear kN
    with_reducible rename Obj.data _ = Data.cell (some (Value.str (Str.ofString "/") _)) => hc1
    with_reducible rename Obj.data _ = Data.cell (some (Value.str (Str.ofString ".") _)) => hc2
    revert X
    revert T
    revert h
    revert hdp
    revert hu
    revert hxt
    revert hyt
    revert hlex
    revert hres
    revert hxp
    revert hyp
    revert hxu
    revert hyu
    revert hxz
    revert hyz
    revert kF
    revert kN2
    revert hc1
    revert hc2
    revert hl1
    revert hz1
    kle_keep
    intro hz1 hl1 hc2 hc1 kN2 kF hyz hxz hyu hxu hyp hxp hres hlex hyt hxt hu hdp h T X
    refine enum_call kF kN2 (kN2 _ (.head _)).1 ⟨rfl, rfl⟩ ?_
    intro h' e it F1 N1 X1
    clear kF kN2
    refine withMap F1 (fun m₀ hm₀ F0 => ?_)
    refine withNews N1 (fun nw2 hnw2 N0 => ?_)
    have hno : NoIt nw2 := by
      rw [hnw2]
      repeat (first | exact NoIt.nil | refine NoIt.cons rfl ?_ | refine NoIt.cons (noIt_ref (by assumption)) ?_)
    have hkx : (x, LCg.lst xv) ∈ nw2 := by rw [hnw2]; exact .head _
    refine forMono (Q' := ExitP s s.heap L' (fun m nx => ∃ r rv k, m (Str.ofString "common") = some (.ref r) ∧ Keeps [Str.ofString "common", Str.ofString "i", Str.ofString "c"] m m₀ ∧ Txs rv (row.take (alk row there)) ∧ nx = (r, listOf rv.toArray k) :: nw2.drop 2)) ?jtail ?jloop
    case jtail =>
      intro f s₂ hf
      obtain ⟨rfl, h₂, tk₂, m₁, news₁, rfl, F2, N2, r, rv, k, hr, hk, hrv, rfl⟩ := hf
      obtain ⟨u1, u2, rfl⟩ := mf1k2u hr hk
      have hrl := hrv.length
      have hzr : (tx (jn 47 (row.take (alk row there)))).length ≤ 1000 := by
        have := jn_take_le (c := 47) (a := row.take (alk row there)) (b := row.drop (alk row there))
        rw [List.take_append_drop] at this
        rw [← slash_jn] at hz1
        simp only [tx_len, List.length_cons] at hz1 ⊢
        omega
      have hrl2 : (row.take (alk row there)).length ≤ 1000 := by rw [List.length_take]; omega
      subst hm₀
      clear F0 F1 N1 X1 N0 hk hr hno hkx
      subst hnw2
      dsimp only [List.drop] at F2 N2 ⊢
      k_steps
      refine' strjoin_ok ?jh lit_slash hrv ?jz3 ?jl3 ?_
      case jh => walk_at "my:get"
      case jz3 => omega
      case jl3 => omega
      intro _ _
      k_steps
      have e : Str.ofString "/" ++ tx (jn 47 (row.take (alk row there))) = tx (47 :: jn 47 (row.take (alk row there))) := by rw [lit_slash, tx_app]; rfl
      rw [← e] at h
      exact h _ _ _ (Fr.keep (by assumption))
    case jloop =>
      refine' loop_enum (keep := [(x, LCg.lst xv)]) rfl F0 N0 (by rw [hnw2]; exact X1) (N0 _ hkx).1 (.inr rfl) (N0 _ hkx).2.1
        (fun i m nx => Keeps [Str.ofString "i", Str.ofString "c"] m m₀ ∧ nx = nw2 ∧ i ≤ alk xs ys) ?jhk ?jh0 ?jturn ?jdone
      case jhk =>
        intro i m nx hj p hp
        obtain ⟨_, hj, _⟩ := hj
        rw [hj, List.mem_singleton.mp hp]; exact hkx
      case jh0 => exact ⟨Keeps.refl, rfl, Nat.zero_le _⟩
      case jdone =>
        intro m₁ news₁ h₂ tk₂ hj F2 N2
        obtain ⟨hk, hj, hi⟩ := hj
        have e2 := alk_le xs ys
        have e3 : row.take (alk row there) = xs := by
          rw [← hres, List.take_of_length_le (by omega)]
        refine ⟨rfl, _, _, _, (x, LCg.lst xv) :: nw2.drop 2, rfl, F2, ?_, x, xv, _, ?_, ?_, ?_, rfl⟩
        · rw [hj] at N2
          exact fun p hp => N2 p (by
            rcases List.mem_cons.mp hp with rfl | hp
            · exact hkx
            · exact List.mem_of_mem_drop hp)
        · rw [hk _ (by decide +kernel), hm₀]; rfl
        · exact fun z hz => hk z fun hq => hz (List.mem_cons_of_mem _ hq)
        · rw [e3]; exact hxt
      case jturn =>
        intro i v Tt tt m₁ news₁ h₂ tk₂ own hi hj hoff F2 N2 hTt
        obtain ⟨hk, hj, hia⟩ := hj
        obtain ⟨p, tp, rfl, hp⟩ := hxt.get hi
        obtain ⟨q, hq, hq1, hq2⟩ := alk_get xs ys i p hlex hia hp
        obtain ⟨tq, hyi⟩ := hyt.at hq
        have hyi' : yv[((i : Nat) : Int).toNat]? = some (.str (tx q) tq) := by simpa using hyi
        have hib : (i : Int) ≤ 1000 := by
          have := (List.getElem?_eq_some_iff.mp hp).1
          omega
        obtain ⟨u1, u2, rfl⟩ := mf2u hk
        clear hk
        subst hm₀
        clear F0 F1 N1 X1 N0
        subst hj
        by_cases hpq : p = q
        · have hi1 := hq1 hpq
          subst hpq
          have hc3 : (p != p) = false := by simp
          subst hnw2
          dsimp only [List.cons_append] at F2 N2 ⊢
          k_steps
          refine' MyTurnEnd.intro (by assumption) (by assumption) (fun p hp => hp) hno ⟨keeps2 ?jA0, rfl, hi1⟩
          case jA0 => intro z h1 h2; simp only [if_neg h1, if_neg h2]
        · have hc3 : (p != q) = true := by simpa using hpq
          have ha := hq2 hpq
          subst hnw2
          dsimp only [List.cons_append] at F2 N2 ⊢
          k_steps
          (with_reducible rename Fr _ _ _ _ => kF)
          (with_reducible rename News _ _ _ _ => kN)
          refine ⟨rfl, _, _, _, _, rfl, kF, ?_, _, xv.take i, 0, rfl, keeps3 ?_, ?_, rfl⟩
          · intro p hp
            refine kN p ?_
            rcases List.mem_cons.mp hp with rfl | hp
            · exact .head _
            · refine .tail _ (.tail _ (.tail _ ?_))
              rcases List.mem_cons.mp hp with rfl | hp
              · exact .head _
              · rw [List.mem_singleton.mp hp]; exact .tail _ (.head _)
          · intro z h1 h2 h3; simp only [if_neg h1, if_neg h2, if_neg h3]
          · rw [← hres, ha]; exact hxt.take i

def HoldW : Prop := True
def WEnd (h₀ : Heap) (L : Addr) (J : (Str → Option Value) → List (Addr × Obj) → Prop) (s₁ s₂ : Shared) : Prop :=
  ∃ h' tk m' nx, s₂ = { s₁ with heap := h', toks := tk } ∧ Fr h₀ L h' m' ∧ News h₀ L h' nx ∧ J m' nx
def WTurn (h₀ : Heap) (L : Addr) (J : (Str → Option Value) → List (Addr × Obj) → Prop) (s₁ : Shared) (Q : Flow → Shared → Prop) (f : Flow) (s₂ : Shared) : Prop :=
  match f with
  | .ret v => Q (.ret v) s₂
  | .brk => Q .next s₂
  | _ => WEnd h₀ L J s₁ s₂
theorem WEnd.intro {h₀ h' : Heap} {L : Addr} {J : (Str → Option Value) → List (Addr × Obj) → Prop} {s₁ : Shared} {tk : Nat} {m' : Str → Option Value} {nx news' : List (Addr × Obj)}
    (F : Fr h₀ L h' m') (N : News h₀ L h' news') (hs : ∀ p ∈ nx, p ∈ news') (hj : J m' nx) : WEnd h₀ L J s₁ { s₁ with heap := h', toks := tk } :=
  ⟨h', tk, m', nx, rfl, F, fun p hp => N p (hs p hp), hj⟩
theorem loop_while {prog : Program} {w : World} {A : Around} {E : Value → Shared → Prop} {s : Shared} {env : Env} {h₀ : Heap} {Q : Flow → Shared → Prop} {test : Expr} {body : List Stmt} {pos : Pos} {m : Str → Option Value} {news : List (Addr × Obj)}
    (F : Fr h₀ env.locals s.heap m) (N : News h₀ env.locals s.heap news) (J : Nat → (Str → Option Value) → List (Addr × Obj) → Prop) (n : Nat) (h0 : J n m news)
    (turn : ∀ n m₁ nx h tk, J n m₁ nx → Fr h₀ env.locals h m₁ → News h₀ env.locals h nx →
      wpAny (model prog w) A (isTrue test env (eval test env)) (fun b s₂ => if b = true then wpAny (model prog w) A (execs body env) (WTurn h₀ env.locals (fun m' nx' => ∃ k, k < n ∧ J k m' nx') { s with heap := h, toks := tk } Q) (fun _ _ => False) s₂ else Q .next s₂) (fun _ _ => False) { s with heap := h, toks := tk }) :
    wpAny (model prog w) A (exec (.While test body [] pos) env) Q E s := by
  refine wpAny_While ?_
  refine codeAny_whileLoop (fun k s' => ∃ h' tk m' nx, s' = { s with heap := h', toks := tk } ∧ Fr h₀ env.locals h' m' ∧ News h₀ env.locals h' nx ∧ J k m' nx) ?_ n ⟨s.heap, s.toks, m, news, rfl, F, N, h0⟩
  rintro k s' ⟨h', tk, m', nx, rfl, F', N', hJ⟩
  refine wpAny_mono (turn k m' nx h' tk hJ F' N') (fun b s₂ h₂ => ?_) fun _ _ x => x.elim
  cases b with
  | true =>
    simp only [if_true] at h₂ ⊢
    refine wpAny_mono h₂ (fun f s₃ h₃ => ?_) fun _ _ x => x.elim
    have fin : WEnd h₀ env.locals (fun m' nx' => ∃ j, j < k ∧ J j m' nx') { s with heap := h', toks := tk } s₃ → ∃ j, j < k ∧ ∃ h' tk m' nx, s₃ = { s with heap := h', toks := tk } ∧ Fr h₀ env.locals h' m' ∧ News h₀ env.locals h' nx ∧ J j m' nx := by
      rintro ⟨h₃', tk₃, m₂, nx₂, rfl, F₃, N₃, j, hj, hJ₃⟩
      exact ⟨j, hj, h₃', tk₃, m₂, nx₂, rfl, F₃, N₃, hJ₃⟩
    cases f with
    | ret v => exact h₃
    | brk => exact h₃
    | cont => exact fin h₃
    | next => exact fin h₃
  | false =>
    simp only [Bool.false_eq_true, if_false] at h₂ ⊢
    exact wpAny_execs_nil h₂
local macro_rules | `(tactic| walk_at "exec While Compare") => `(tactic| (k_here; (with_reducible rename HoldW => hmark); refine held ?_))
local macro_rules | `(tactic| walk_at "exec While BoolOp") => `(tactic| (k_here; (with_reducible rename HoldW => hmark); refine held ?_))

theorem place_ok {w : World} {A : Around} {E : Value → Shared → Prop} {s : Shared} {V : Program} {Lo : List Str} {mg mb : Str → Option Value} {Q : Value → Shared → Prop} {row : List (List Nat)} {vs : List Value} {D : Addr} {n : Nat}
  (X : (hd.heap_1 w.params).In s.heap) (T : TR V Lo mg mb s.heap) (hdp : A.depth + 5 < recursionLimit) (hu : A.units + 100 < cLine) (hh : A.handled = none)
  (hD : s.heap.get? D = some (listOf vs.toArray n)) (hv : Txs vs row) (hz : (tx (47 :: jn 47 row)).length ≤ 1000) (hl : row.length ≤ 1000)
  (h : ∀ h' t' u, s.heap.StaysIn h' → Q (.str (tx (47 :: jn 47 row)) u) { s with heap := h', toks := t' }) :
  wpAny (model Pg w) A (call (.ref 185) [.ref D]) Q E s := by
  obtain ⟨hd0, d0, fr0, gu0, un0⟩ := A
  dsimp only at hh hdp hu
  subst hh
  w_on
  have hz1 : (tx (jn 47 row)).length ≤ 1000 := by simp only [tx_len, List.length_cons] at hz ⊢; omega
  refine' enter (K := hd.heap_1 w.params) (args := ⟨[.ref D], []⟩) (binds := [(Str.ofString "row", .ref D)]) X T ?k1 ?k2 ?k3 ?k4 ?k5 ?_ ?k6 ?k7 ?k8 ?k9
  walk_at "my:cases"
  intro L' h₁ F N
  dsimp only [List.reverse, List.reverseAux] at F
  k_fold
  k_steps
  refine' strjoin_ok ?jh lit_slash hv ?jz3 ?jl3 ?_
  case jh => walk_at "my:get"
  case jz3 => omega
  case jl3 => omega
  intro _ _
  k_steps
  have e : Str.ofString "/" ++ tx (jn 47 row) = tx (47 :: jn 47 row) := by rw [lit_slash, tx_app]; rfl
  rw [← e] at h
  exact h _ _ _ (Fr.keep (by assumption))
theorem alk_at : ∀ (a b : List (List Nat)) (i : Nat) (p q : List Nat), i ≤ alk a b → a[i]? = some p → b[i]? = some q → (p = q → i + 1 ≤ alk a b) ∧ (p ≠ q → alk a b = i)
  | [], _, i, p, q, _, e, _ => by simp at e
  | _ :: _, [], i, p, q, _, _, e => by simp at e
  | x :: r, y :: t, 0, p, q, _, e1, e2 => by
    simp only [List.getElem?_cons_zero, Option.some.injEq] at e1 e2
    subst e1 e2
    refine ⟨fun k => ?_, fun k => ?_⟩
    · simp only [alk]; rw [if_pos k]; omega
    · simp only [alk]; rw [if_neg k]
  | x :: r, y :: t, i + 1, p, q, h, e1, e2 => by
    simp only [alk] at h
    by_cases k : x = y
    · rw [if_pos k] at h
      obtain ⟨h1, h2⟩ := alk_at r t i p q (by omega) (by simpa using e1) (by simpa using e2)
      refine ⟨fun k2 => ?_, fun k2 => ?_⟩
      · simp only [alk]; rw [if_pos k]; have := h1 k2; omega
      · simp only [alk]; rw [if_pos k, h2 k2]
    · rw [if_neg k] at h; omega
theorem alike_ok {w : World} {A : Around} {E : Value → Shared → Prop} {s : Shared} {V : Program} {Lo : List Str} {mg mb : Str → Option Value} {Q : Value → Shared → Prop} {row there : List (List Nat)} {us vs : List Value} {D D2 : Addr} {n n2 : Nat}
  (X : (hd.heap_1 w.params).In s.heap) (T : TR V Lo mg mb s.heap) (hdp : A.depth + 5 < recursionLimit) (hu : A.units + 100 < cLine) (hh : A.handled = none)
  (hD : s.heap.get? D = some (listOf us.toArray n)) (hus : Txs us row) (hD2 : s.heap.get? D2 = some (listOf vs.toArray n2)) (hvs : Txs vs there) (hl : row.length ≤ 1000) (hl2 : there.length ≤ 1000)
  (h : ∀ h' t' u, s.heap.StaysIn h' → Q (.int (alk row there : Nat) u) { s with heap := h', toks := t' }) :
  wpAny (model Pg w) A (call (.ref 199) [.ref D, .ref D2]) Q E s := by
  obtain ⟨hd0, d0, fr0, gu0, un0⟩ := A
  dsimp only at hh hdp hu
  subst hh
  w_on
  have hul := hus.length
  have hvl := hvs.length
  have hul1 : us.length ≤ 1000 := by omega
  have hvl1 : vs.length ≤ 1000 := by omega
  have ha1 := alk_le row there
  have ha2 := alk_le there row
  rw [alk_comm] at ha2
  refine' enter (K := hd.heap_1 w.params) (args := ⟨[.ref D, .ref D2], []⟩) (binds := [(Str.ofString "row", .ref D), (Str.ofString "other", .ref D2)]) X T ?k1 ?k2 ?k3 ?k4 ?k5 ?_ ?k6 ?k7 ?k8 ?k9
  walk_at "my:cases"
  intro L' h₁ F N
  dsimp only [List.reverse, List.reverseAux] at F
  k_fold
  have hmk : HoldW := True.intro
  k_steps
  unfold Held
  (with_reducible rename Fr _ _ _ _ => kF)
  (with_reducible rename News _ _ _ _ => kN)
  refine withMap kF (fun m₀ hm₀ F0 => ?_)
  refine loop_while F0 kN (fun k m nx => ∃ (i : Nat) (t : Tok), m (Str.ofString "alike") = some (.int (i : Int) t) ∧ Keeps [Str.ofString "alike"] m m₀ ∧ nx = [] ∧ i ≤ alk row there ∧ k = row.length + 1 - i) (row.length + 1) ?h0 ?turn
  case h0 => subst hm₀; exact ⟨0, _, by simp; rfl, Keeps.refl, rfl, Nat.zero_le _, rfl⟩
  case turn =>
    rintro k m₁ nx h₂ tk₂ ⟨i, t, e1, hk, rfl, hi, rfl⟩ F1 N1
    obtain rfl : m₁ = fun z => if z = Str.ofString "alike" then some (.int (i : Int) t) else m₀ z := funext fun z => by
      by_cases hz : z = Str.ofString "alike"
      · rw [if_pos hz, hz, e1]
      · rw [if_neg hz]; exact hk z (by simpa using hz)
    subst hm₀
    clear F0 kF kN e1 hk
    dsimp only at F1 ⊢
    by_cases hlt : i < row.length ∧ i < there.length
    · have hp : row[i]? = some (row[i]'hlt.1) := List.getElem?_eq_getElem hlt.1
      have hq : there[i]? = some (there[i]'hlt.2) := List.getElem?_eq_getElem hlt.2
      generalize row[i]'hlt.1 = p at hp
      generalize there[i]'hlt.2 = q at hq
      obtain ⟨tp, hp'⟩ := hus.at hp
      obtain ⟨tq, hq'⟩ := hvs.at hq
      obtain ⟨g1, g2⟩ := alk_at row there i p q hi hp hq
      have hlt2 : (i : Int) < min (us.length : Int) (vs.length : Int) := by omega
      k_steps
      · rename (tx p == tx q) = true => hc
        rw [tx_beq] at hc
        have hpq : p = q := by simpa using hc
        refine' WEnd.intro (by assumption) (by assumption) (fun p hp => hp) ⟨row.length + 1 - (i + 1), by omega, i + 1, ?jT0, ?jA0, keeps1 ?jB0, rfl, g1 hpq, rfl⟩
        case jA0 => exact rfl
        case jB0 => intro z h1; simp only [if_neg h1]
      · rename (tx p == tx q) = false => hc
        rw [tx_beq] at hc
        have hpq : p ≠ q := by simpa using hc
        rw [g2 hpq] at h
        exact h _ _ _ (Fr.keep (by assumption))
    · have hlt2 : ¬ (i : Int) < min (us.length : Int) (vs.length : Int) := by omega
      have : alk row there = i := by omega
      k_steps
      rw [this] at h
      exact h _ _ _ (Fr.keep (by assumption))

/-- the text of a key -/
def keyL (e : DictEntry) : List Nat := match e.key with | .str y _ => y.cps.toList | _ => [0]
def alpha (c : Nat) : Bool := c == 46 || c == 97 || c == 98 || c == 32
theorem ett_mk {P : Params} {es : Array DictEntry} {n : Nat} (a : (hd.heap_1 P).lookup 157 = some ⟨.type "dict", none, .dict es n, #[]⟩) (b : KeysLit P es.toList) (c : (es.toList.all fun e => !e.refKey) = true) (d : (es.toList.all fun e => !((keyL e).all alpha) || keyL e == [46] || keyL e == [46, 46, 46]) = true) :
    ∃ es n, (hd.heap_1 P).lookup 157 = some ⟨.type "dict", none, .dict es n, #[]⟩ ∧ KeysLit P es.toList ∧ (es.toList.all fun e => !e.refKey) = true ∧ (es.toList.all fun e => !((keyL e).all alpha) || keyL e == [46] || keyL e == [46, 46, 46]) = true := ⟨es, n, a, b, c, d⟩
theorem ett_keys (P : Params) : ∃ es n, (hd.heap_1 P).lookup 157 = some ⟨.type "dict", none, .dict es n, #[]⟩ ∧ KeysLit P es.toList ∧ (es.toList.all fun e => !e.refKey) = true ∧ (es.toList.all fun e => !((keyL e).all alpha) || keyL e == [46] || keyL e == [46, 46, 46]) = true :=
  ett_mk (by k_is) (by k_keys) (by kernel_rfl) (by kernel_rfl)
theorem ett_in (P : Params) (x : List Nat) (hx : x.all alpha = true) (h1 : x ≠ [46]) (h2 : x ≠ [46, 46, 46]) : nsIn (hd.heap_1 P) 157 (tx x) = some none := by
  obtain ⟨es, n, hl, hk, hr, ha⟩ := ett_keys P
  have hf : es.toList.find? (fun e => e.key.isStr (tx x)) = none := by
    rw [List.find?_eq_none]
    intro e he
    obtain ⟨y, t, e1, _⟩ := hk.all e he
    have h3 := List.all_eq_true.mp ha e he
    simp only [keyL, e1] at h3
    rw [e1]
    show ¬ ((y == tx x) = true)
    intro e2
    have e3 : y = tx x := by simpa using e2
    subst e3
    rw [tx_toList] at h3
    simp [hx, h1, h2] at h3
  unfold nsIn
  rw [hl]
  dsimp only
  rw [hf]
  dsimp only
  rw [if_neg]
  intro hq
  rw [List.any_eq_true] at hq
  obtain ⟨e, he, hq⟩ := hq
  have := List.all_eq_true.mp hr e he
  simp [hq] at this

section
variable {prog : Program} {w : World} {A : Around} {s : Shared} {env : Env} {h₀ : Heap}
theorem loop_range {E : Value → Shared → Prop} {Q : Flow → Shared → Prop} {x : Str} {px : Pos} {body : List Stmt} {r : Addr} {n : Nat} {z : Int} {t u v : Tok} {m : Str → Option Value} {news : List (Addr × Obj)}
    (hh : A.handled = none) (F : Fr h₀ env.locals s.heap m) (N : News h₀ env.locals s.heap news) (hr : IsRange s.heap r 0 z 1 t u v) (hz : z = (n : Int)) (hn : n ≤ 100000)
    (J : Nat → (Str → Option Value) → List (Addr × Obj) → Prop) (h0 : J 0 m news)
    (turn : ∀ i t m₁ news₁ h tk own, i < n → J i m₁ news₁ → OwnOff own (news₁.map (·.1)) → Fr h₀ env.locals h m₁ → News h₀ env.locals h (news₁ ++ own) →
      wpAny (model prog w) A (assign (.Name x px) env (.int (i : Int) t)) (fun _ s₂ => wpAny (model prog w) A (execs body env) (MyTurn h₀ env.locals (J (i + 1)) own { s with heap := h, toks := tk } Q) (fun _ _ => False) s₂) (fun _ _ => False) { s with heap := h, toks := tk })
    (done : ∀ m₁ news₁ h tk, J n m₁ news₁ → Fr h₀ env.locals h m₁ → News h₀ env.locals h news₁ → Q .next { s with heap := h, toks := tk }) :
    wpAny (model prog w) A (pyIter (.ref r)) (fun it s₂ => codeAny (model prog w) A (.forLoop (.Name x px) it body [] env) (fun r s' => match r with | .ok f => Q f s' | .error e => cameBackBy (model prog w) A env E e s') s₂) E s := by
  subst hz
  have e1 : Builtin.Range.rangeSize 0 (n : Int) 1 = (n : Int) := by
    unfold Builtin.Range.rangeSize
    by_cases h : n = 0
    · subst h; rfl
    · have h1 : (0 : Int) < n := by omega
      rw [if_pos (by decide), if_pos h1]
      omega
  refine wpAny_pyIter_range hr (by
    unfold Builtin.Range.small
    rw [e1]
    have k1 : ∀ i : Int, 0 ≤ i → i ≤ 100000 → Builtin.Range.rangeFitsLong i = true := fun i h1 h2 => by
      unfold Builtin.Range.rangeFitsLong
      simp only [Bool.and_eq_true, decide_eq_true_eq]
      omega
    rw [k1 0 (by omega) (by omega), k1 n (by omega) (by omega), k1 1 (by omega) (by omega), if_pos (by decide), k1 (n + (1 - 1)) (by omega) (by omega)]
    simp) ?_
  rw [e1]
  have W := Walks.range (prog := prog) (w := w) hh s.heap.objs.size 0 1 n
  refine loopW (s := { s with heap := _ }) (keep := []) W (fun v i s Q E _ hq => wpAny_pure hq) ?_ ?_ ?_ ?_ ?_ ?_ (F.push _) (fun p hp => ⟨Heap.get?_push_of_some _ (N p hp).1, (N p hp).2⟩) J ?_ h0 ?_ ?_
  · intro hm
    exact absurd F.ns.lt ((List.mem_singleton.mp hm) ▸ Nat.lt_irrefl _)
  · intro b hb
    rw [List.mem_singleton.mp hb]
    exact next_is_new F
  · intro p hp hI
    exact absurd (Heap.lt_size (N p hp).1) ((List.mem_singleton.mp hI) ▸ Nat.lt_irrefl _)
  · intro i h hst b hb
    rw [List.mem_singleton.mp hb]
    exact ⟨_, hst, rfl⟩
  · intro b hb hn
    exact .inl hb
  · show IsRangeIter (s.heap.push _) s.heap.objs.size (0 + ((0 : Nat) : Int) * 1) ((n : Int) - ((0 : Nat) : Int)) 1
    have e2 : (0 + ((0 : Nat) : Int) * 1) = 0 := by decide
    have e3 : ((n : Int) - ((0 : Nat) : Int)) = n := by omega
    rw [e2, e3]
    exact Heap.get?_push_size _ rfl
  · intro i m nx _ p hp; cases hp
  · rintro i v m₁ news₁ h tk own hi ⟨t, rfl⟩ hJ hoff F₁ N₁
    have e4 : (0 + (i : Int) * 1) = i := by omega
    rw [e4]
    exact turn i t m₁ news₁ h tk own hi hJ hoff F₁ N₁
  · exact done
end
/-- a token as the program keeps it -/
abbrev tok2 (n : Nat) (t : Tok) (x : List Nat) (u : Tok) : Obj := { cls := .type "tuple", data := .seq #[.int (n : Int) t, .str (tx x) u] }
inductive Tk (P : Addr → Obj → Prop) : List Value → List (Nat × List Nat) → Prop
  | nil : Tk P [] []
  | cons {a : Addr} {n : Nat} {x : List Nat} {t u : Tok} {vs : List Value} {ts : List (Nat × List Nat)} : P a (tok2 n t x u) → Tk P vs ts → Tk P (.ref a :: vs) ((n, x) :: ts)
section
variable {P P' : Addr → Obj → Prop} {vs us : List Value} {ts rs : List (Nat × List Nat)}
theorem Tk.mono (k : ∀ a o, P a o → P' a o) (h : Tk P vs ts) : Tk P' vs ts := by
  induction h with
  | nil => exact .nil
  | cons h _ ih => exact .cons (k _ _ h) ih
theorem Tk.app (h : Tk P vs ts) (k : Tk P us rs) : Tk P (vs ++ us) (ts ++ rs) := by
  induction h with
  | nil => exact k
  | cons h _ ih => exact .cons h ih
theorem Tk.length (h : Tk P vs ts) : vs.length = ts.length := by
  induction h with
  | nil => rfl
  | cons _ _ ih => simp [ih]
theorem Tk.rep {a : Addr} {n : Nat} {x : List Nat} {t u : Tok} (h : P a (tok2 n t x u)) : ∀ k : Nat, Tk P (List.replicate k (.ref a)) (List.replicate k (n, x))
  | 0 => .nil
  | k + 1 => .cons h (Tk.rep h k)
theorem Tk.one {a : Addr} {n : Nat} {x : List Nat} {t u : Tok} (h : P a (tok2 n t x u)) : Tk P [.ref a] [(n, x)] := .cons h .nil
theorem Tk.get (h : Tk P vs ts) : ∀ {i : Nat} {v : Value}, vs[i]? = some v → ∃ a n x t u, v = .ref a ∧ P a (tok2 n t x u) ∧ ts[i]? = some (n, x) := by
  induction h with
  | nil => intro i v e; simp at e
  | cons h _ ih =>
    intro i v e
    cases i with
    | zero => simp only [List.getElem?_cons_zero, Option.some.injEq] at e; exact ⟨_, _, _, _, _, e.symm, h, rfl⟩
    | succ i => simp only [List.getElem?_cons_succ] at e ⊢; exact ih e
end
/-- what is in a ledger -/
def inL (Z : List (Addr × Obj)) (a : Addr) (o : Obj) : Prop := (a, o) ∈ Z
theorem Tk.more {Z Z' : List (Addr × Obj)} {vs : List Value} {ts : List (Nat × List Nat)} (h : Tk (inL Z) vs ts) (k : ∀ p ∈ Z, p ∈ Z') : Tk (inL Z') vs ts := h.mono fun a o q => k (a, o) q
/-- values that are numbers -/
inductive Nums : List Value → List Nat → Prop
  | nil : Nums [] []
  | cons {x : Nat} {t : Tok} {vs : List Value} {xs : List Nat} : Nums vs xs → Nums (.int (x : Int) t :: vs) (x :: xs)
theorem Nums.length {vs : List Value} {ps : List Nat} (h : Nums vs ps) : vs.length = ps.length := by
  induction h with
  | nil => rfl
  | cons _ ih => simp [ih]
theorem Nums.get {vs : List Value} {ps : List Nat} (h : Nums vs ps) : ∀ {i : Nat} {v : Value}, vs[i]? = some v → ∃ (p : Nat) (t : Tok), v = .int (p : Int) t ∧ ps[i]? = some p := by
  induction h with
  | nil => intro i v e; simp at e
  | cons _ ih =>
    intro i v e
    cases i with
    | zero => simp only [List.getElem?_cons_zero, Option.some.injEq] at e; exact ⟨_, _, e.symm, rfl⟩
    | succ i => simp only [List.getElem?_cons_succ] at e ⊢; exact ih e
def toldR (c : Nat) : List (Nat × List Nat) := List.replicate (c / 3) (52, [46, 46, 46]) ++ List.replicate (c % 3) (23, [46])
def toldN : List (List Nat) → List (Nat × List Nat)
  | [] => []
  | [p] => [(1, p)]
  | p :: q :: r => (1, p) :: (23, [46]) :: toldN (q :: r)
def told (rs : List Nat) (ns : List (List Nat)) : List (Nat × List Nat) := rs.flatMap toldR ++ toldN ns ++ [(0, [])]
theorem toldN_snoc (p : List Nat) : ∀ ps : List (List Nat), toldN (ps ++ [p]) = toldN ps ++ (if ps = [] then [] else [(23, [46])]) ++ [(1, p)]
  | [] => rfl
  | [q] => rfl
  | q :: r :: t => by
    have ih := toldN_snoc p (r :: t)
    show (1, q) :: (23, [46]) :: toldN ((r :: t) ++ [p]) = _
    rw [ih]; simp [toldN]
theorem toldN_length (ps : List (List Nat)) : (toldN ps).length ≤ 2 * ps.length := by
  match ps with
  | [] => simp [toldN]
  | [p] => simp [toldN]
  | p :: q :: r =>
    have := toldN_length (q :: r)
    simp only [toldN, List.length_cons] at *
    omega
theorem toldR_length (c : Nat) : (toldR c).length ≤ c := by
  unfold toldR; simp only [List.length_append, List.length_replicate]; omega
section
variable {prog : Program} {w : World} {A : Around} {E : Value → Shared → Prop} {s : Shared} {h₀ : Heap} {L b : Addr} {m : Str → Option Value} {news : List (Addr × Obj)} {news' : Nat → List (Addr × Obj)} {Q : Value → Shared → Prop} {D : Addr} {us vs : List Value} {n n2 : Nat}
theorem my_extend (F : Fr h₀ L s.heap m) (N : News h₀ L s.heap news) (hb : (b, listOf vs.toArray n2) ∈ news) (U : ∀ n', Upd D (listOf us.toArray n) (listOf (us ++ vs).toArray n') news (news' n')) (hz : us.length + vs.length ≤ 100000)
    (h : ∀ n' h', Fr h₀ L h' m → News h₀ L h' (news' n') → Q .none { s with heap := h' }) : wpAny (model prog w) A (call (.builtin "list.extend") [.ref D, .ref b]) Q E s := by
  have hs := sizeLine_eq
  have hd : ¬(!us.toArray.isEmpty && Builtin.List.listTooLong (us.toArray.size + vs.toArray.size)) = true := by
    intro hq
    have hq := (Bool.and_eq_true_iff.mp hq).2
    unfold Builtin.List.listTooLong at hq
    simp only [List.size_toArray, decide_eq_true_eq] at hq
    omega
  by_cases hv : vs = []
  · subst hv
    have e := U n
    rw [List.append_nil] at e
    exact kxn_extend F N hb rfl e hd (by simp; omega) (by simp only [List.size_toArray] at *; omega) fun h' F' N' => h n h' F' N'
  · exact kl_extend F N hb rfl (by simp; exact hv) (U (n + 1)) hd (by simp; omega) (by simp only [List.size_toArray] at *; omega) fun h' F' N' => h (n + 1) h' F' N'
end
local macro_rules | `(tactic| k_all) => `(tactic| with_reducible assumption)
local macro_rules | `(tactic| walk_at "call builtin:list.extend") => `(tactic| (k_here; (with_reducible show wpAny _ _ (call (Value.builtin _) [Value.ref _, Value.ref _]) _ _ _); k_dflt (refine' my_extend ?F ?N ?b ?U ?z ?_; walk_at "my:FN"; (case b => k_mem); (case U => (intro n'; k_upd)); (case z => walk_at "my:size"); k_whole); intro n' h' F' N'; (try k_sweep)))
local macro_rules | `(tactic| walk_at "my:size") => `(tactic| first | assumption | omega | ((try simp only [List.length_append, List.length_replicate, List.length_drop, List.length_take, List.length_cons, List.length_nil]); omega))

theorem fdiv_nat (c k : Nat) : Int.fdiv (c : Int) (k : Int) = ((c / k : Nat) : Int) := by
  rw [Int.fdiv_eq_ediv_of_nonneg _ (by omega)]; exact (Int.natCast_ediv c k).symm
theorem fmod_nat (c k : Nat) : Int.fmod (c : Int) (k : Int) = ((c % k : Nat) : Int) := by
  rw [Int.fmod_eq_emod_of_nonneg _ (by omega)]; exact (Int.natCast_emod c k).symm
theorem flat_len : ∀ {rs : List Nat}, (∀ c ∈ rs, c ≤ 100) → (rs.flatMap toldR).length ≤ 100 * rs.length
  | [], _ => Nat.le_refl _
  | c :: r, h => by
    have ih := flat_len (rs := r) fun c hc => h c (List.mem_cons_of_mem _ hc)
    have h1 := toldR_length c
    have h2 := h c (by simp)
    simp only [List.flatMap_cons, List.length_append, List.length_cons]
    omega
theorem told_turn {h₀ h : Heap} {L R d1 d2 d3 l1 l2 T1 T2 : Addr} {o1 o2 o3 p1 p2 oR : Obj} {t1 u1 t2 u2 : Tok} {Z own : List (Addr × Obj)}
    (N : News h₀ L h ((d1, o1) :: (d2, o2) :: (l2, p2) :: (T2, tok2 23 t2 [46] u2) :: (d3, o3) :: (l1, p1) :: (T1, tok2 52 t1 [46, 46, 46] u1) :: (R, oR) :: (Z ++ own))) :
    News h₀ L h (((R, oR) :: (T2, tok2 23 t2 [46] u2) :: (T1, tok2 52 t1 [46, 46, 46] u1) :: Z) ++ own) := by
  intro p hp
  refine N p ?_
  simp only [List.cons_append, List.mem_cons, List.mem_append] at hp ⊢
  rcases hp with h | h | h | h | h <;> simp only [h, true_or, or_true]
theorem told_turn2 {h₀ h : Heap} {L R T1 T2 : Addr} {oR : Obj} {t1 u1 t2 u2 : Tok} {x : List Nat} {Z own : List (Addr × Obj)}
    (N : News h₀ L h ((T1, tok2 1 t1 x u1) :: (T2, tok2 23 t2 [46] u2) :: (R, oR) :: (Z ++ own))) :
    News h₀ L h (((R, oR) :: (T1, tok2 1 t1 x u1) :: (T2, tok2 23 t2 [46] u2) :: Z) ++ own) := by
  intro p hp
  refine N p ?_
  simp only [List.cons_append, List.mem_cons, List.mem_append] at hp ⊢
  rcases hp with h | h | h | h | h <;> simp only [h, true_or, or_true]
theorem told_turn1 {h₀ h : Heap} {L R T1 : Addr} {oR : Obj} {t1 u1 : Tok} {x : List Nat} {Z own : List (Addr × Obj)}
    (N : News h₀ L h ((T1, tok2 1 t1 x u1) :: (R, oR) :: (Z ++ own))) :
    News h₀ L h (((R, oR) :: (T1, tok2 1 t1 x u1) :: Z) ++ own) := by
  intro p hp
  refine N p ?_
  simp only [List.cons_append, List.mem_cons, List.mem_append] at hp ⊢
  rcases hp with h | h | h | h <;> simp only [h, true_or, or_true]
theorem told_last {h₀ h : Heap} {L R B l T1 : Addr} {oR oB ol : Obj} {t1 u1 : Tok} {Z : List (Addr × Obj)}
    (N : News h₀ L h ((B, oB) :: (l, ol) :: (T1, tok2 0 t1 [] u1) :: (R, oR) :: Z)) :
    ∀ p ∈ (B, oB) :: (T1, tok2 0 t1 [] u1) :: Z, h.get? p.1 = some p.2 ∧ h₀.get? p.1 = none := by
  intro p hp
  have := N p (by
    simp only [List.mem_cons] at hp ⊢
    rcases hp with h | h | h <;> simp only [h, true_or, or_true])
  exact ⟨this.1, this.2.2⟩
/-- what holds between the turns of _law_told's loops -/
abbrev TInv (R : Addr) (rs : List Nat) (m₀ : Str → Option Value) (i : Nat) (m : Str → Option Value) (nx : List (Addr × Obj)) : Prop := ∃ ys k Z, Keeps [Str.ofString "count"] m m₀ ∧ nx = (R, listOf (List.toArray ys) k) :: Z ∧ Tk (inL Z) ys ((rs.take i).flatMap toldR) ∧ (∀ p ∈ Z, p.1 ≠ R) ∧ NoIt Z
abbrev TInv2 (R : Addr) (rs : List Nat) (ns : List (List Nat)) (m₀ : Str → Option Value) (i : Nat) (m : Str → Option Value) (nx : List (Addr × Obj)) : Prop := ∃ ys k Z, Keeps [Str.ofString "place"] m m₀ ∧ nx = (R, listOf (List.toArray ys) k) :: Z ∧ Tk (inL Z) ys (rs.flatMap toldR ++ toldN (ns.take i)) ∧ (∀ p ∈ Z, p.1 ≠ R) ∧ NoIt Z
theorem told_ok {w : World} {A : Around} {E : Value → Shared → Prop} {s : Shared} {V : Program} {Lo : List Str} {mg mb : Str → Option Value} {Q : Value → Shared → Prop} {rs : List Nat} {ns : List (List Nat)} {us vs : List Value} {D D2 : Addr} {n n2 : Nat}
  (X : (hd.heap_1 w.params).In s.heap) (T : TR V Lo mg mb s.heap) (hdp : A.depth + 5 < recursionLimit) (hu : A.units + 100 < cLine) (hh : A.handled = none)
  (hD : s.heap.get? D = some (listOf us.toArray n)) (hus : Nums us rs) (hD2 : s.heap.get? D2 = some (listOf vs.toArray n2)) (hvs : Txs vs ns) (hl : rs.length ≤ 100) (hl1 : ∀ c ∈ rs, c ≤ 100) (hl2 : ns.length ≤ 1000)
  (h : ∀ h' t' R Z ys k, s.heap.StaysIn h' → (∀ p ∈ (R, listOf (List.toArray ys) k) :: Z, h'.get? p.1 = some p.2 ∧ s.heap.get? p.1 = none) → Tk (inL Z) ys (told rs ns) → Q (.ref R) { s with heap := h', toks := t' }) :
  wpAny (model Pg w) A (call (.ref 178) [.ref D, .ref D2]) Q E s := by
  obtain ⟨hd0, d0, fr0, gu0, un0⟩ := A
  dsimp only at hh hdp hu
  subst hh
  w_on
  have hul := hus.length
  have hvl := hvs.length
  refine' enter (K := hd.heap_1 w.params) (args := ⟨[.ref D, .ref D2], []⟩) (binds := [(Str.ofString "runs", .ref D), (Str.ofString "names", .ref D2)]) X T ?k1 ?k2 ?k3 ?k4 ?k5 ?_ ?k6 ?k7 ?k8 ?k9
  walk_at "my:cases"
  intro L' h₁ F N
  dsimp only [List.reverse, List.reverseAux] at F
  k_fold
  k_steps
  (with_reducible rename Fr _ _ _ _ => kF)
  (with_reducible rename News _ _ _ _ => kN)
  refine withMap kF (fun m₀ hm₀ F0 => ?_)
  clear kF
  refine newsOne kN (fun R hR kN1 => ?_)
  subst hR
  clear kN
  refine' loop_list (keep := []) rfl F0 kN1 (F0.keep _ _ hD) ⟨rfl, rfl⟩ (.inl hD) (frNe F0 hD)
    (TInv R rs m₀) ?hk ?h0 ?turn ?done
  case hk => intro i m nx _ p hp; cases hp
  case h0 => exact ⟨[], _, [], Keeps.refl, rfl, .nil, (fun _ hp => nomatch hp), .nil⟩
  case done =>
    rintro m₁ news₁ h₂ tk₂ ⟨ys, k, Z, hk, rfl, hys, hZ, hno⟩ F1 N1
    rw [hul, List.take_length] at hys
    obtain ⟨u, rfl⟩ := mf1u hk
    subst hm₀
    clear F0 kN1 hk
    dsimp only at F1 ⊢
    k_steps
    (with_reducible rename Fr _ _ _ _ => kF)
    (with_reducible rename News _ _ _ _ => kN)
    (with_reducible rename IsRange _ _ _ _ _ _ _ _ => hrg)
    refine withMap kF (fun m₀ hm₀ F0 => ?_)
    clear kF
    have hnp : (ns.length : Nat) = vs.length := hvl.symm
    have hyz0 : ys.length ≤ 10000 := by
      rw [hys.length]
      have := flat_len (rs := rs) hl1
      omega
    refine' loop_range (n := vs.length) rfl F0 kN hrg rfl (by omega)
      (TInv2 R rs ns m₀) ?rh0 ?rturn ?rdone
    case rh0 => exact ⟨ys, k, Z, Keeps.refl, rfl, by simpa [toldN] using hys, hZ, hno⟩
    case rdone =>
      clear hys hZ hno kN hyz0
      rintro m₁ news₁ h₃ tk₃ ⟨ys, k, Z, hk, rfl, hys, hZ, hno⟩ F3 N3
      rw [hvl, List.take_length] at hys
      obtain ⟨u2, rfl⟩ := mf1u hk
      subst hm₀
      clear F0 hk
      have hyz : ys.length ≤ 15000 := by
        rw [hys.length, List.length_append]
        have := flat_len (rs := rs) hl1
        have := toldN_length ns
        omega
      dsimp only at F3 ⊢
      k_steps
      (with_reducible rename News _ _ _ _ => kN)
      refine h _ _ _ _ _ _ (Fr.keep (by assumption)) (told_last kN) ?_
      exact (hys.more fun p hp => List.mem_cons_of_mem _ hp).app (Tk.one (.head _))
    case rturn =>
      clear hys hZ hno kN hyz0
      rintro i ti m₁ news₁ h₃ tk₃ own hi ⟨ys, k, Z, hk, rfl, hys, hZ, hno⟩ hoff F3 N3
      obtain ⟨p, hp⟩ : ∃ p, ns[i]? = some p := ⟨_, List.getElem?_eq_getElem (by omega)⟩
      obtain ⟨tp, hyi⟩ := hvs.at hp
      have hyi' : vs[((i : Nat) : Int).toNat]? = some (.str (tx p) tp) := by simpa using hyi
      have hib : (i : Int) ≤ 1000 := by omega
      obtain ⟨u2, rfl⟩ := mf1u hk
      subst hm₀
      clear F0 hk
      have hyz : ys.length ≤ 15000 := by
        rw [hys.length, List.length_append]
        have := flat_len (rs := rs) hl1
        have := toldN_length (ns.take i)
        have h2 : (ns.take i).length ≤ 1000 := by rw [List.length_take]; omega
        omega
      have hZo : ∀ p ∈ Z ++ own, p.1 ≠ R := fun p hp => (List.mem_append.mp hp).elim (hZ p) fun hp => hoff p hp R (.head _)
      have hst : ns.take (i + 1) = ns.take i ++ [p] := by rw [List.take_add_one, hp]; rfl
      dsimp only [List.cons_append] at F3 N3 ⊢
      by_cases hi0 : i = 0
      · subst hi0
        have hc1 : ¬ (((0 : Nat) : Int) > 0) := by omega
        k_steps
        (with_reducible rename News _ _ _ _ => kN)
        have N4 := told_turn1 kN
        refine' MyTurnEnd.intro (by assumption) N4 (fun p hp => hp) (.cons rfl (.cons rfl hno)) ⟨_, _, _, keeps1 ?jB0, rfl, ?jtk, ?jZ, .cons rfl hno⟩
        case jB0 => intro z h1; simp only [if_neg h1]
        case jZ => exact List.forall_mem_cons.mpr ⟨by k_ne, hZ⟩
        case jtk =>
          rw [hst, toldN_snoc, if_pos (by simp), List.append_nil, ← List.append_assoc]
          exact (hys.more fun p hp => List.mem_cons_of_mem _ hp).app (Tk.one (.head _))
      · have hc1 : ((i : Nat) : Int) > 0 := by omega
        k_steps
        (with_reducible rename News _ _ _ _ => kN)
        have N4 := told_turn2 kN
        refine' MyTurnEnd.intro (by assumption) N4 (fun p hp => hp) (.cons rfl (.cons rfl (.cons rfl hno))) ⟨_, _, _, keeps1 ?jB1, rfl, ?jtk1, ?jZ1, .cons rfl (.cons rfl hno)⟩
        case jB1 => intro z h1; simp only [if_neg h1]
        case jZ1 => exact List.forall_mem_cons.mpr ⟨by k_ne, List.forall_mem_cons.mpr ⟨by k_ne, hZ⟩⟩
        case jtk1 =>
          rw [hst, toldN_snoc, if_neg (by
            intro e
            have := congrArg List.length e
            simp only [List.length_take, List.length_nil] at this
            omega), ← List.append_assoc, ← List.append_assoc]
          try rw [List.concat_eq_append]
          exact ((hys.more fun p hp => List.mem_cons_of_mem _ (List.mem_cons_of_mem _ hp)).app (Tk.one (.tail _ (.head _)))).app (Tk.one (.head _))
  case turn =>
    rintro i v m₁ news₁ h₂ tk₂ own hi ⟨ys, k, Z, hk, rfl, hys, hZ, hno⟩ hoff F1 N1
    obtain ⟨c, t, rfl, hc⟩ := hus.get hi
    have hcz := hl1 c (List.mem_of_getElem? hc)
    obtain ⟨u, rfl⟩ := mf1u hk
    subst hm₀
    clear F0 kN1 hk
    have hZo : ∀ p ∈ Z ++ own, p.1 ≠ R := fun p hp => (List.mem_append.mp hp).elim (hZ p) fun hp => hoff p hp R (.head _)
    dsimp only [List.cons_append] at F1 N1 ⊢
    have hyz : ys.length ≤ 10000 := by
      rw [hys.length]
      have := flat_len (rs := rs.take i) fun c hc => hl1 c (List.mem_of_mem_take hc)
      have h2 : (rs.take i).length ≤ 100 := by rw [List.length_take]; omega
      omega
    have q1 : Int.fdiv (c : Int) 3 = ((c / 3 : Nat) : Int) := fdiv_nat c 3
    have q2 : Int.fmod (c : Int) 3 = ((c % 3 : Nat) : Int) := fmod_nat c 3
    k_steps
    (with_reducible rename News _ _ _ _ => kN)
    have N3 := told_turn kN
    refine' MyTurnEnd.intro (by assumption) N3 (fun p hp => hp) ?jno ⟨_, _, _, keeps1 ?jB0, rfl, ?jtk, ?jZ, ?jno2⟩
    case jno => exact .cons rfl (.cons rfl (.cons rfl hno))
    case jno2 => exact .cons rfl (.cons rfl hno)
    case jB0 => intro z h1; simp only [if_neg h1]
    case jZ =>
      refine List.forall_mem_cons.mpr ⟨by k_ne, List.forall_mem_cons.mpr ⟨by k_ne, hZ⟩⟩
    case jtk =>
      have e1 : (rs.take (i + 1)).flatMap toldR = (rs.take i).flatMap toldR ++ toldR c := by rw [List.take_add_one, hc]; simp
      rw [e1, q1, q2, Int.toNat_natCast, Int.toNat_natCast]
      exact (hys.more fun p hp => List.mem_cons_of_mem _ (List.mem_cons_of_mem _ hp)).app ((Tk.rep (.tail _ (.head _)) _).app (Tk.rep (.head _) _))

def sp (r : List Nat) : List Nat := r.dropWhile (fun c => [32].contains c)
/-- how a text is cut -/
inductive Rd : List Nat → List (Nat × List Nat) → Prop
  | nil : Rd [] []
  | three {r : List Nat} {ts : List (Nat × List Nat)} : Rd (sp r) ts → Rd (46 :: 46 :: 46 :: r) ((52, [46, 46, 46]) :: ts)
  | one {r : List Nat} {ts : List (Nat × List Nat)} : r.take 2 ≠ [46, 46] → Rd (sp r) ts → Rd (46 :: r) ((23, [46]) :: ts)
  | name {p r : List Nat} {ts : List (Nat × List Nat)} : p ≠ [] → (∀ c ∈ p, c = 97 ∨ c = 98) → (∀ c, r.head? = some c → c ≠ 97 ∧ c ≠ 98) → Rd (sp r) ts → Rd (p ++ r) ((1, p) :: ts)
theorem Rd.emp {r : List Nat} {ts : List (Nat × List Nat)} (h : Rd r ts) (e : r = []) : ts = [] := by
  cases h with
  | nil => rfl
  | three _ => cases e
  | one _ _ => cases e
  | name h1 _ _ _ => exact absurd (List.append_eq_nil_iff.mp e).1 h1
/-- the first token, and what is left -/
theorem Rd.step {r : List Nat} {ts : List (Nat × List Nat)} (h : Rd r ts) (e : r ≠ []) :
    (∃ q us, r = 46 :: 46 :: 46 :: q ∧ ts = (52, [46, 46, 46]) :: us ∧ Rd (sp q) us) ∨ (∃ q us, r = 46 :: q ∧ q.take 2 ≠ [46, 46] ∧ ts = (23, [46]) :: us ∧ Rd (sp q) us) ∨
    (∃ p q us, r = p ++ q ∧ p ≠ [] ∧ (∀ c ∈ p, c = 97 ∨ c = 98) ∧ (∀ c, q.head? = some c → c ≠ 97 ∧ c ≠ 98) ∧ ts = (1, p) :: us ∧ Rd (sp q) us) := by
  cases h with
  | nil => exact absurd rfl e
  | three h => exact .inl ⟨_, _, rfl, rfl, h⟩
  | one h1 h => exact .inr (.inl ⟨_, _, rfl, h1, rfl, h⟩)
  | name h1 h2 h3 h => exact .inr (.inr ⟨_, _, _, rfl, h1, h2, h3, rfl, h⟩)
def inD (x : List Nat) : Bool := x == [46] || x == [46, 46, 46]
theorem ett_has (P : Params) (x : List Nat) (hx : x.all alpha = true) : ∃ r, nsIn (hd.heap_1 P) 157 (tx x) = some r ∧ r.isSome = inD x := by
  by_cases h1 : x = [46]
  · subst h1
    have : ∃ v, nsIn (hd.heap_1 P) 157 (tx [46]) = some (some v) := by
      rw [← lit_dot]
      exact Exists.intro _ (by k_is)
    obtain ⟨v, e⟩ := this
    exact ⟨_, e, rfl⟩
  · by_cases h2 : x = [46, 46, 46]
    · subst h2
      have : ∃ v, nsIn (hd.heap_1 P) 157 (tx [46, 46, 46]) = some (some v) := by
        rw [← lit_ddd]
        exact Exists.intro _ (by k_is)
      obtain ⟨v, e⟩ := this
      exact ⟨_, e, rfl⟩
    · exact ⟨none, ett_in P x hx h1 h2, by simp [inD, h1, h2]⟩
theorem ett_1 (P : Params) : ∃ t, nsIn (hd.heap_1 P) 157 (tx [46]) = some (some (.int 23 t)) := by
  rw [← lit_dot]
  exact Exists.intro _ (by k_is)
theorem ett_3 (P : Params) : ∃ t, nsIn (hd.heap_1 P) 157 (tx [46, 46, 46]) = some (some (.int 52 t)) := by
  rw [← lit_ddd]
  exact Exists.intro _ (by k_is)
section
variable {w : World} {A : Around} {E : Value → Shared → Prop} {s : Shared} {h₀ : Heap} {L : Addr} {m : Str → Option Value} {x : List Nat} {y : Str} {t : Tok} {Q : Value → Shared → Prop}
theorem my_in (F : Fr h₀ L s.heap m) (X : (hd.heap_1 w.params).In h₀) (hy : y = tx x) (hx : x.all alpha = true) (h : Q (.bool (inD x)) { s with toks := s.toks + 1 }) :
    wpAny (model Pg w) A (compareOp .In (.str y t) (.ref 157)) Q E s := by
  subst hy
  obtain ⟨es, n, hl, hk, _, _⟩ := ett_keys w.params
  obtain ⟨r, e, hr⟩ := ett_has w.params x hx
  exact topIn_K F X hl hk e rfl (by rw [hr]; exact h)
theorem my_ett1 {value slice : Expr} (F : Fr h₀ L s.heap m) (X : (hd.heap_1 w.params).In h₀) (hy : y = tx [46]) (h : ∀ u, Q (.int 23 u) { s with toks := s.toks + 1 })
    (hs : subscripted slice false (.ref 157) (.str y t) = operate [.ref 157, .str y t] (getItem (.ref 157) (.str y t)) := by with_unfolding_all rfl) : wpAny (model Pg w) A (subscriptTail value slice (.ref 157) (.str y t)) Q E s := by
  subst hy
  obtain ⟨es, n, hl, hk, _, _⟩ := ett_keys w.params
  obtain ⟨u, e⟩ := ett_1 w.params
  exact topItem_K F X hl hk e (h u) hs
theorem my_ett3 {value slice : Expr} (F : Fr h₀ L s.heap m) (X : (hd.heap_1 w.params).In h₀) (hy : y = tx [46, 46, 46]) (h : ∀ u, Q (.int 52 u) { s with toks := s.toks + 1 })
    (hs : subscripted slice false (.ref 157) (.str y t) = operate [.ref 157, .str y t] (getItem (.ref 157) (.str y t)) := by with_unfolding_all rfl) : wpAny (model Pg w) A (subscriptTail value slice (.ref 157) (.str y t)) Q E s := by
  subst hy
  obtain ⟨es, n, hl, hk, _, _⟩ := ett_keys w.params
  obtain ⟨u, e⟩ := ett_3 w.params
  exact topItem_K F X hl hk e (h u) hs
end
theorem sp_sub {r : List Nat} : (sp r).all alpha = true ∨ ¬ r.all alpha = true := by
  by_cases h : r.all alpha = true
  · left
    rw [List.all_eq_true] at h ⊢
    exact fun c hc => h c ((List.dropWhile_sublist _).subset hc)
  · exact .inr h
theorem sp_len (r : List Nat) : (sp r).length ≤ r.length := (List.dropWhile_sublist _).length_le
open LCg LCt in
/-- a comprehension with a test over a short tuple, that makes texts -/
theorem rest_gen {prog : Program} {w : World} {A : Around} {s : Shared} {h₀ : Heap} {L : Addr} {m : Str → Option Value} {env : Env} {ct elt : Expr} {x : Str} {scope : Scope} {cl : List (Str × Addr)} {S : List (Addr × Obj) → Prop} {vs : List Value} {news : List (Addr × Obj)}
    {Fin : List Value → List (Addr × Obj) → Prop} (good : Nat → Bool) (out : Nat → List Nat) (hS : S news)
    (test : ∀ i v I oI C oC D ys m₂ h tk (E' : Value → Shared → Prop), vs[i]? = some v → NsObj oC m₂ → m₂ x = some v → Fr h₀ L h m → News h₀ L h ((I, oI) :: (C, oC) :: (D, lst ys) :: news) →
      wpAny (model prog w) A (isTrue ct (compEnvC scope cl C env) (eval ct (compEnvC scope cl C env))) (OkPost s h₀ L m ((I, oI) :: (C, oC) :: (D, lst ys) :: news) (good i)) E' { s with heap := h, toks := tk })
    (take : ∀ i v I oI C oC D ys m₂ h tk (E' : Value → Shared → Prop), vs[i]? = some v → NsObj oC m₂ → m₂ x = some v → Fr h₀ L h m → News h₀ L h ((I, oI) :: (C, oC) :: (D, lst ys) :: news) →
      wpAny (model prog w) A (eval elt (compEnvC scope cl C env)) (TxPost s h₀ L m ((I, oI) :: (C, oC) :: (D, lst ys) :: news) (out i)) E' { s with heap := h, toks := tk })
    (fin : ∀ us, Txs us (((List.range vs.length).filter good).map out) → Fin us news) :
    CompRestT prog w A h₀ L m env ct elt x scope cl s S (fun i v => vs.toArray[i]? = some v) Fin vs.toArray.size 0 [] news := by
  have main : ∀ k i ys, i + k = vs.length → Txs ys (((List.range i).filter good).map out) → CompRestT prog w A h₀ L m env ct elt x scope cl s S (fun i v => vs.toArray[i]? = some v) Fin k i ys news := by
    intro k
    induction k with
    | zero =>
      intro i ys hi hy
      have e : i = vs.length := by omega
      subst e
      exact CompRestT.zero (fin ys hy)
    | succ k ih =>
      intro i ys hi hy
      refine CompRestT.succ ?_
      intro v I oI C oC D m₂ h tk E' hPv hC hx F N off ne
      have hPv' : vs[i]? = some v := by simpa using hPv
      have htk : ((List.range (i + 1)).filter good).map out = ((List.range i).filter good).map out ++ (if good i then [out i] else []) := by
        rw [List.range_succ, List.filter_append, List.map_append]
        cases hg : good i <;> simp [hg]
      refine wpAny_mono (test i v I oI C oC D ys m₂ h tk E' hPv' hC hx F N) (fun ok s' hok => ?_) fun _ _ e => e
      obtain ⟨rfl, h', tk', rfl, F', N'⟩ := hok
      cases hp : good i with
      | true =>
        rw [hp] at htk
        simp only [if_true] at htk ⊢
        refine wpAny_mono (take i v I oI C oC D ys m₂ h' tk' E' hPv' hC hx F' N') (fun y s'' hy' => ?_) fun _ _ e => e
        obtain ⟨⟨t, rfl⟩, h'', tk'', rfl, F'', N''⟩ := hy'
        refine CompEnd.intro F'' N'' news (fun p hp => hp) off hS (ih (i + 1) _ (by omega) ?_)
        rw [htk]
        exact hy.snoc (out i) t
      | false =>
        rw [hp] at htk
        simp only [Bool.false_eq_true, if_false, List.append_nil] at htk ⊢
        refine CompEnd.intro F' N' news (fun p hp => hp) off hS (ih (i + 1) _ (by omega) ?_)
        rw [htk]
        exact hy
  have := main vs.length 0 [] (by omega) (by simpa using Txs.nil)
  simpa using this
theorem txs_carried {vs : List Value} {ps : List (List Nat)} (h : Txs vs ps) : CarriedAll vs (ps.map fun p => PyData.str (tx p)) := by
  induction h with
  | nil => exact .nil
  | cons _ ih => exact .cons (.str _ _) ih
def Ucs (p : List Nat) : Prop := p.all (· < 0x110000) = true
theorem ucs_ok {p : List Nat} (h : Ucs p) : PyData.strOk (tx p) = true := by
  unfold PyData.strOk; simpa [tx] using (by simpa [Ucs] using h)
theorem strs_lay : ∀ {ps : List (List Nat)}, (∀ p ∈ ps, Ucs p) → PyData.canLayAll0 (ps.map fun p => PyData.str (tx p)) = true
  | [], _ => rfl
  | q :: r, h => by
    have h1 := ucs_ok (h q (by simp))
    have h2 := strs_lay (ps := r) fun p hp => h p (List.mem_cons_of_mem _ hp)
    simp [PyData.canLayAll0, PyData.canLay0, h1, h2]
theorem strs_depth : ∀ ps : List (List Nat), PyData.depthAll (ps.map fun p => PyData.str (tx p)) = 0
  | [] => rfl
  | _ :: r => by simp [PyData.depthAll, PyData.depth, strs_depth r]
theorem strs_shaped {ps : List (List Nat)} (h : ∀ p ∈ ps, Ucs p) : SeqAt.shaped (.list (ps.map fun p => PyData.str (tx p))) = true := by
  simp [SeqAt.shaped, PyData.canLay0, PyData.depth, strs_lay h, strs_depth]
theorem strs_nil (ps : List (List Nat)) : PyData.eqv (.list (ps.map fun p => PyData.str (tx p))) (.list []) = ps.isEmpty := by
  cases ps <;> simp [PyData.eqv, PyData.eqvAll]
section
variable {prog : Program} {w : World} {A : Around} {E : Value → Shared → Prop} {s : Shared} {Q : Value → Shared → Prop} {D B : Addr} {us : List Value} {W : List (List Nat)} {n n2 : Nat}
theorem my_ne_nil (hg : s.heap.get? D = some (listOf us.toArray n)) (hg2 : s.heap.get? B = some (listOf #[] n2)) (hv : Txs us W) (hk : ∀ p ∈ W, Ucs p) (hu : A.units + 64 < cLine) (h : Q (.bool (!W.isEmpty)) s) :
    wpAny (model prog w) A (compareOp .NotEq (.ref D) (.ref B)) Q E s :=
  ne_dataH (reads_newData ⟨_, hg, rfl, n, rfl⟩ (txs_carried hv)) (reads_newData (ys := []) (ds := []) ⟨_, hg2, rfl, n2, rfl⟩ CarriedAll.nil) (strs_shaped hk) rfl hu (by rw [strs_nil]; exact h)
theorem my_eq_nil (hg : s.heap.get? D = some (listOf us.toArray n)) (hg2 : s.heap.get? B = some (listOf #[] n2)) (hv : Txs us W) (hk : ∀ p ∈ W, Ucs p) (hu : A.units + 64 < cLine) (h : Q (.bool W.isEmpty) s) :
    wpAny (model prog w) A (compareOp .Eq (.ref D) (.ref B)) Q E s :=
  eq_dataH (reads_newData ⟨_, hg, rfl, n, rfl⟩ (txs_carried hv)) (reads_newData (ys := []) (ds := []) ⟨_, hg2, rfl, n2, rfl⟩ CarriedAll.nil) (strs_shaped hk) rfl hu (by rw [strs_nil]; exact h)
end
theorem alpha_ucs {p : List Nat} (h : p.all alpha = true) : Ucs p := by
  unfold Ucs
  rw [List.all_eq_true] at h ⊢
  intro c hc
  have := h c hc
  simp only [alpha, Bool.or_eq_true, beq_iff_eq] at this
  simp only [decide_eq_true_eq]
  omega
theorem three_of {a b c v : Value} {i : Nat} (h : [a, b, c][i]? = some v) : (i = 0 ∧ v = a) ∨ (i = 1 ∧ v = b) ∨ (i = 2 ∧ v = c) := by
  match i, h with
  | 0, h => exact .inl ⟨rfl, by simpa using h.symm⟩
  | 1, h => exact .inr (.inl ⟨rfl, by simpa using h.symm⟩)
  | 2, h => exact .inr (.inr ⟨rfl, by simpa using h.symm⟩)
  | n + 3, h => simp at h
theorem sl_3 (x : List Nat) : Txt.slice (tx x) none (some 3) = tx (x.take 3) := slice_to x 3
theorem take_alpha {r : List Nat} (h : r.all alpha = true) (n : Nat) : (r.take n).all alpha = true := by
  rw [List.all_eq_true] at h ⊢
  exact fun c hc => h c (List.mem_of_mem_take hc)
def wds (r : List Nat) : List (List Nat) := ((List.range 3).filter (fun i => inD (r.take (3 - i)))).map (fun i => r.take (3 - i))
theorem wds3 (q : List Nat) : wds (46 :: 46 :: 46 :: q) = [[46, 46, 46], [46]] := rfl
theorem wds1 {q : List Nat} (h : q.take 2 ≠ [46, 46]) : ∃ W, wds (46 :: q) = [46] :: W ∧ ∀ p ∈ W, Ucs p := by
  cases q with
  | nil => exact ⟨[[46], [46]], rfl, fun p hp => by
      rcases List.mem_cons.mp hp with rfl | hp
      · rfl
      · rw [List.mem_singleton.mp hp]; rfl⟩
  | cons c q =>
    refine ⟨[], ?_, by simp⟩
    have h1 : inD (46 :: c :: q.take 1) = false := by
      unfold inD
      rw [Bool.or_eq_false_iff]
      refine ⟨by simp, ?_⟩
      rw [beq_eq_false_iff_ne]
      intro e
      apply h
      simp only [List.cons.injEq, true_and] at e
      show c :: q.take 1 = _
      rw [e.1, e.2]
    have h2 : inD [46, c] = false := by
      unfold inD
      rw [Bool.or_eq_false_iff]
      exact ⟨by simp, by simp⟩
    have e0 : (46 :: c :: q).take (3 - 0) = 46 :: c :: q.take 1 := rfl
    have e1 : (46 :: c :: q).take (3 - 1) = [46, c] := rfl
    have e2 : (46 :: c :: q).take (3 - 2) = [46] := rfl
    have e3 : inD [46] = true := rfl
    show (([0, 1, 2] : List Nat).filter _).map _ = _
    simp only [List.filter_cons, List.filter_nil, e0, e1, e2, e3, h1, h2]
    rfl
theorem wds0 {p q : List Nat} (hp : p ≠ []) (h : ∀ c ∈ p, c = 97 ∨ c = 98) : wds (p ++ q) = [] := by
  cases p with
  | nil => exact absurd rfl hp
  | cons c p =>
    rcases h c (by simp) with rfl | rfl
    · rfl
    · rfl
section
variable {prog : Program} {w : World} {A : Around} {E : Value → Shared → Prop} {s : Shared} {Q : Value → Shared → Prop} {x y : Str} {z cs z' : List Nat} {t u : Tok}
theorem my_lens (e0 : x = tx z) (hz : z.length ≤ 100000) (h : ∀ t' k, Q (.int (z.length : Nat) t') { s with toks := k }) : wpAny (model prog w) A (call (.builtin "len") [.str x t]) Q E s := by
  subst e0
  refine P.len_str (by rw [tx_len]; omega) ?_
  rw [tx_len]; exact h _ _
theorem lstrip_sl (e0 : x = tx z) (hy : y = tx cs) (hz : z.length ≤ 100000) (he : z.dropWhile (fun c => cs.contains c) = z') (h : ∀ t' k, Q (.str (tx z') t') { s with toks := k }) :
    wpAny (model prog w) A (call (.builtin "str.lstrip") [.str x t, .str y u]) Q E s := by
  subst e0
  exact lstrip_ok hy (by rw [tx_len]; exact hz) he h
end
theorem Txs.inv {us : List Value} {x : List Nat} {W : List (List Nat)} (h : Txs us (x :: W)) : ∃ t vs, us = .str (tx x) t :: vs ∧ Txs (.str (tx x) t :: vs) (x :: W) := by
  cases h with
  | cons h => exact ⟨_, _, rfl, .cons h⟩
theorem Txs.inv0 {us : List Value} (h : Txs us []) : us = [] := by cases h; rfl
local macro_rules | `(tactic| walk_at "call builtin:len") => `(tactic| (k_here; (with_reducible show wpAny _ _ (call (Value.builtin "len") [Value.str _ _]) _ _ _); (refine' my_lens ?e ?z ?_; (case e => first | exact rfl | assumption); (case z => walk_at "my:len")); intro _ _))
local macro_rules | `(tactic| walk_at "call builtin:str.lstrip") => `(tactic| (k_here; (with_reducible show wpAny _ _ (call (Value.builtin "str.lstrip") [Value.str (PySem.Txt.slice _ _ _) _, Value.str _ _]) _ _ _); (refine' lstrip_sl ?e ?y ?z ?d ?_; (case e => exact slice_from _ _); (case y => first | exact lit_slash | exact lit_sp | exact lit_ab); (case z => first | assumption | ((try simp only [List.length_drop]); walk_at "my:len")); (case d => exact rfl)); intro _ _))
local macro_rules | `(tactic| walk_at "subscriptTail Subscript Name UnaryOp Constant ref int") => `(tactic| (k_here; (with_reducible show wpAny _ _ (subscriptTail _ _ (Value.ref _) (Value.int _ _)) _ _ _); k_dflt (refine' item_tupleT ?t ?a ?b ?c ?d ?_; (case t => exact News.isTup (by k_asm) (by k_mem)); (case a => decide); (case b => decide); (case c => rfl); (case d => rfl); k_whole)))
local macro_rules | `(tactic| walk_at "compareOp In str ref") => `(tactic| (k_here; k_dflt (refine' my_in ?F ?X ?y ?z ?_; (case F => k_asm); (case X => k_asm); (case y => first | exact sl_3 _ | exact sl_2 _ | exact sl_1 _); (case z => exact take_alpha (by assumption) _))))
local macro_rules | `(tactic| walk_at "compareOp NotEq ref ref") => `(tactic| (k_here; k_dflt (refine' my_ne_nil ?g ?g2 ?v ?k ?u ?_; (case g => walk_at "my:get"); (case g2 => walk_at "my:get"); (case v => assumption); (case k => assumption); (case u => k_units))))
local macro_rules | `(tactic| walk_at "compareOp Eq ref ref") => `(tactic| (k_here; k_dflt (refine' my_eq_nil ?g ?g2 ?v ?k ?u ?_; (case g => walk_at "my:get"); (case g2 => walk_at "my:get"); (case v => assumption); (case k => assumption); (case u => k_units))))
local macro_rules | `(tactic| walk_at "subscriptTail") => `(tactic| (k_here; (with_reducible show wpAny _ _ (subscriptTail _ _ (Value.ref 157) (Value.str _ _)) _ _ _); (first | (refine' my_ett3 ?F ?X ?y ?_; (case F => k_asm); (case X => k_asm); (case y => exact rfl)) | (refine' my_ett1 ?F ?X ?y ?_; (case F => k_asm); (case X => k_asm); (case y => exact rfl))); intro _))

theorem read_turn {h₀ h : Heap} {L D l W T4 R C : Addr} {o1 o2 o3 o4 oR oc : Obj} {Z : List (Addr × Obj)}
    (N : News h₀ L h ((D, o1) :: (l, o2) :: (W, o3) :: (T4, o4) :: (R, oR) :: (C, oc) :: Z)) : News h₀ L h ((R, oR) :: (C, oc) :: (D, o1) :: Z) := by
  intro p hp
  refine N p ?_
  simp only [List.mem_cons] at hp ⊢
  rcases hp with h | h | h | h <;> simp only [h, true_or, or_true]
theorem sp_alpha {r : List Nat} (h : r.all alpha = true) : (sp r).all alpha = true := (sp_sub (r := r)).resolve_right fun q => q h
theorem ab_drop {p q : List Nat} (h : ∀ c ∈ p, c = 97 ∨ c = 98) (hq : ∀ c, q.head? = some c → c ≠ 97 ∧ c ≠ 98) : (p ++ q).dropWhile (fun c => [97, 98].contains c) = q := by
  induction p with
  | nil =>
    cases q with
    | nil => rfl
    | cons c q =>
      obtain ⟨h1, h2⟩ := hq c rfl
      simp [h1, h2]
  | cons c p ih =>
    have ih := ih fun d hd => h d (List.mem_cons_of_mem _ hd)
    rcases h c (by simp) with rfl | rfl
    · simpa using ih
    · simpa using ih
/-- what holds between the turns of _law_read's loop -/
abbrev RInv (L' R : Addr) (ts : List (Nat × List Nat)) (m₀ : Str → Option Value) (k : Nat) (m : Str → Option Value) (nx : List (Addr × Obj)) : Prop := ∃ r ts1 ts2 ys n Z oc u, Keeps [Str.ofString "words"] m m₀ ∧ nx = (R, listOf (List.toArray ys) n) :: (L' + 1, oc) :: Z ∧ Obj.data oc = .cell (some (.str (tx r) u)) ∧ Tk (inL Z) ys ts1 ∧ Rd r ts2 ∧ ts = ts1 ++ ts2 ∧ r.all alpha = true ∧ ts1.length + r.length ≤ 1000 ∧ (∀ p ∈ Z, p.1 ≠ L' + 1) ∧ (∀ p ∈ Z, p.1 ≠ R) ∧ k = r.length
theorem read_ok {w : World} {A : Around} {E : Value → Shared → Prop} {s : Shared} {V : Program} {Lo : List Str} {mg mb : Str → Option Value} {Q : Value → Shared → Prop} {x : List Nat} {ts : List (Nat × List Nat)} {t : Tok}
  (X : (hd.heap_1 w.params).In s.heap) (T : TR V Lo mg mb s.heap) (hdp : A.depth + 10 < recursionLimit) (hu : A.units + 200 < cLine) (hh : A.handled = none)
  (hx : x.all alpha = true) (hz : (tx x).length ≤ 1000) (hr : Rd (sp x) ts)
  (h : ∀ h' t' R Z ys k, s.heap.StaysIn h' → (∀ p ∈ (R, listOf (List.toArray ys) k) :: Z, h'.get? p.1 = some p.2 ∧ s.heap.get? p.1 = none) → Tk (inL Z) ys (ts ++ [(0, [])]) → Q (.ref R) { s with heap := h', toks := t' }) :
  wpAny (model Pg w) A (call (.ref 171) [.str (tx x) t]) Q E s := by
  obtain ⟨hd0, d0, fr0, gu0, un0⟩ := A
  dsimp only at hh hdp hu
  subst hh
  w_on
  have hsp : x.dropWhile (fun c => [32].contains c) = sp x := rfl
  have hzs : (tx (sp x)).length ≤ 1000 := by
    have := sp_len x
    simp only [tx_len] at hz ⊢; omega
  refine' enterC (K := hd.heap_1 w.params) (args := ⟨[.str (tx x) t], []⟩) (binds := [(Str.ofString "text", .str (tx x) t)]) X T ?k1 ?k2 ?k3 ?k4 ?k5 ?k9 ?_ ?k6 ?k7 ?k8
  case k1 => k_is
  case k2 => k_is
  case k3 => k_room
  case k4 => exact BindsTo.of_eq rfl
  case k5 => exact rfl
  case k9 => decide +kernel
  case k6 => exact rfl
  case k7 => exact rfl
  case k8 => exact rfl
  intro L' h₁ tk cells F N C
  k_cells C
  try dsimp only
  try simp only [List.cons_append, List.nil_append] at N
  k_unmd
  k_fold
  have hmk : HoldW := True.intro
  k_steps
  unfold Held
  have hmk : HoldC := True.intro
  (with_reducible rename Fr _ _ _ _ => kF)
  (with_reducible rename News _ _ _ _ => kN)
  with_reducible rename Obj.data _ = Data.cell (some (Value.str (tx (sp x)) _)) => hc1
  refine withMap kF (fun m₀ hm₀ F0 => ?_)
  refine newsTwo kN (fun R hR kN1 => ?_)
  subst hR
  clear kN kF
  refine loop_while F0 kN1 (RInv L' R ts m₀) (sp x).length ?h0 ?turn
  case h0 => exact ⟨sp x, [], ts, [], _, [], _, _, Keeps.refl, rfl, hc1, .nil, hr, rfl, (sp_sub (r := x)).resolve_right (fun q => q hx), by rw [tx_len] at hzs; simpa using hzs, (fun _ hp => nomatch hp), (fun _ hp => nomatch hp), rfl⟩
  case turn =>
    rintro k m₁ nx h₂ tk₂ ⟨r, ts1, ts2, ys, n, Z, oc, u, hk, rfl, hoc, hys, hrd, hts, hra, hrl, hZL, hZR, rfl⟩ F1 N1
    obtain ⟨u1, rfl⟩ := mf1u hk
    subst hm₀
    clear F0 hk kN1 hc1
    dsimp only at F1 ⊢
    have hyl := hys.length
    have hyz : ys.length ≤ 1000 := by omega
    by_cases hemp : r = []
    · subst hemp
      have h0 := hrd.emp rfl
      subst h0
      rw [List.append_nil] at hts
      subst hts
      k_steps
      (with_reducible rename News _ _ _ _ => kN)
      refine h _ _ _ _ _ _ (Fr.keep (by assumption)) (told_last kN) ?_
      exact (hys.more fun p hp => List.mem_cons_of_mem _ (List.mem_cons_of_mem _ hp)).app (Tk.one (.head _))
    · have he : r.isEmpty = false := List.isEmpty_eq_false_iff.mpr hemp
      have he2 : (r != []) = true := by simpa using hemp
      have hrz : (tx r).length ≤ 1000 := by rw [tx_len]; omega
      k_steps
      unfold Held
      refine LCp.Assign_SrcTT (F₀ := by k_asm) (by rfl) (by with_unfolding_all rfl) (by rfl) (by decide) (by rfl) (by decide) (by rfl) (by rfl) (by rfl) ?_
      k_steps
      refine ⟨_, _, _, rfl, rfl, by k_asm, by k_asm, .inr ⟨_, .head _, rfl, _, rfl⟩, by first | size_fits | exact Nat.le_of_ble_eq_true rfl, ?_⟩
      intro g'
      refine rest_gen (vs := [.int 3 _, .int 2 _, .int 1 _]) (fun i => inD (r.take (3 - i))) (fun i => r.take (3 - i)) (.inr ⟨_, .head _, rfl, _, rfl⟩) ?jt1 ?jk1 ?jf1
      case jt1 =>
        intro i v I oI C oC D ys m₂ h tk E' hv hC hx F N
        rcases three_of hv with ⟨rfl, rfl⟩ | ⟨rfl, rfl⟩ | ⟨rfl, rfl⟩
        all_goals
          k_steps
          exact ⟨rfl, _, _, rfl, by assumption, by assumption⟩
      case jk1 =>
        intro i v I oI C oC D ys m₂ h tk E' hv hC hx F N
        rcases three_of hv with ⟨rfl, rfl⟩ | ⟨rfl, rfl⟩ | ⟨rfl, rfl⟩
        · k_steps
          exact ⟨⟨_, congrArg (Value.str · _) (sl_3 r)⟩, _, _, rfl, by assumption, by assumption⟩
        · k_steps
          exact ⟨⟨_, congrArg (Value.str · _) (sl_2 r)⟩, _, _, rfl, by assumption, by assumption⟩
        · k_steps
          exact ⟨⟨_, congrArg (Value.str · _) (sl_1 r)⟩, _, _, rfl, by assumption, by assumption⟩
      case jf1 =>
        intro us hus
        rcases hrd.step hemp with ⟨q, ts3, rfl, hts2, hrd'⟩ | ⟨q, ts3, rfl, hq, hts2, hrd'⟩ | ⟨p, q, ts3, rfl, hp0, hp, hq, hts2, hrd'⟩
        · replace hus : Txs us [[46, 46, 46], [46]] := hus
          have hcs : ∀ p ∈ ([[46, 46, 46], [46]] : List (List Nat)), Ucs p := fun p hp => by
            rcases List.mem_cons.mp hp with rfl | hp
            · rfl
            · rw [List.mem_singleton.mp hp]; rfl
          obtain ⟨t1, us1, rfl, hus⟩ := hus.inv
          k_steps
          (with_reducible rename Fr _ _ _ _ => kF)
          (with_reducible rename News _ _ _ _ => kN)
          with_reducible rename Obj.data _ = Data.cell (some (Value.str _ _)) => hc2
          have kN2 := read_turn kN
          have hsl := sp_len q
          refine' WEnd.intro kF kN2 (fun p hp => hp) ⟨(sp q).length, ?w1, sp q, ts1 ++ [(52, [46, 46, 46])], ts3, _, _, _, _, _, keeps1 ?w2, rfl, hc2, ?w3, hrd', ?w4, ?w5, ?w6, ?w7, ?w8, rfl⟩
          case w1 => simp only [List.length_cons, List.length_append, List.length_nil] at *; omega
          case w2 => intro z h1; simp only [if_neg h1]
          case w3 => exact (hys.more fun p hp => List.mem_cons_of_mem _ hp).app (Tk.one (.head _))
          case w4 => rw [hts, hts2, List.append_assoc]; rfl
          case w5 => exact sp_alpha (by rw [List.all_eq_true] at hra ⊢; exact fun c hc => hra c (by simp [hc]))
          case w6 => simp only [List.length_cons, List.length_append, List.length_nil] at *; omega
          case w7 => exact List.forall_mem_cons.mpr ⟨by k_ne, hZL⟩
          case w8 => exact List.forall_mem_cons.mpr ⟨by k_ne, hZR⟩
        · obtain ⟨W, hw, hcs⟩ := wds1 hq
          replace hus : Txs us (wds (46 :: q)) := hus
          rw [hw] at hus
          replace hcs : ∀ p ∈ [46] :: W, Ucs p := List.forall_mem_cons.mpr ⟨rfl, hcs⟩
          obtain ⟨t1, us1, rfl, hus⟩ := hus.inv
          k_steps
          (with_reducible rename Fr _ _ _ _ => kF)
          (with_reducible rename News _ _ _ _ => kN)
          with_reducible rename Obj.data _ = Data.cell (some (Value.str _ _)) => hc2
          have kN2 := read_turn kN
          have hsl := sp_len q
          refine' WEnd.intro kF kN2 (fun p hp => hp) ⟨(sp q).length, ?w1, sp q, ts1 ++ [(23, [46])], ts3, _, _, _, _, _, keeps1 ?w2, rfl, hc2, ?w3, hrd', ?w4, ?w5, ?w6, ?w7, ?w8, rfl⟩
          case w1 => simp only [List.length_cons, List.length_append, List.length_nil] at *; omega
          case w2 => intro z h1; simp only [if_neg h1]
          case w3 => exact (hys.more fun p hp => List.mem_cons_of_mem _ hp).app (Tk.one (.head _))
          case w4 => rw [hts, hts2, List.append_assoc]; rfl
          case w5 => exact sp_alpha (by rw [List.all_eq_true] at hra ⊢; exact fun c hc => hra c (by simp [hc]))
          case w6 => simp only [List.length_cons, List.length_append, List.length_nil] at *; omega
          case w7 => exact List.forall_mem_cons.mpr ⟨by k_ne, hZL⟩
          case w8 => exact List.forall_mem_cons.mpr ⟨by k_ne, hZR⟩
        · replace hus : Txs us (wds (p ++ q)) := hus
          rw [wds0 hp0 hp] at hus
          have hcs : ∀ p ∈ ([] : List (List Nat)), Ucs p := fun _ h => nomatch h
          have := hus.inv0
          subst this
          have hdw : (p ++ q).dropWhile (fun c => [97, 98].contains c) = q := ab_drop hp hq
          have hqz : (tx q).length ≤ 1000 := by simp only [tx_len, List.length_append] at hrz ⊢; omega
          k_steps
          (with_reducible rename Fr _ _ _ _ => kF)
          (with_reducible rename News _ _ _ _ => kN)
          with_reducible rename Obj.data _ = Data.cell (some (Value.str _ _)) => hc2
          have hs2 : (p.length : Nat) ≥ 1 := by cases p with | nil => exact absurd rfl hp0 | cons _ _ => simp
          have hm : (if ((p ++ q).length : Int) - (q.length : Int) > 1 then ((p ++ q).length : Int) - (q.length : Int) else 1) = ((p.length : Nat) : Int) := by
            rw [List.length_append]; split <;> omega
          have hs : Txt.slice (tx (p ++ q)) none (some (if ((p ++ q).length : Int) - (q.length : Int) > 1 then ((p ++ q).length : Int) - (q.length : Int) else 1)) = tx p := by
            rw [hm, slice_to, List.take_left']; rfl
          rw [hs] at kN hc2
          rw [tx_len, List.drop_left' rfl] at hc2
          have kN2 := read_turn kN
          have hsl := sp_len q
          refine' WEnd.intro kF kN2 (fun p hp => hp) ⟨(sp q).length, ?w1, sp q, ts1 ++ [(1, p)], ts3, _, _, _, _, _, keeps1 ?w2, rfl, hc2, ?w3, hrd', ?w4, ?w5, ?w6, ?w7, ?w8, rfl⟩
          case w1 => simp only [List.length_cons, List.length_append, List.length_nil] at *; omega
          case w2 => intro z h1; simp only [if_neg h1]
          case w3 => exact (hys.more fun p hp => List.mem_cons_of_mem _ hp).app (Tk.one (.head _))
          case w4 => rw [hts, hts2, List.append_assoc]; rfl
          case w5 => exact sp_alpha (by rw [List.all_eq_true] at hra ⊢; exact fun c hc => hra c (by simp [hc]))
          case w6 => simp only [List.length_cons, List.length_append, List.length_nil] at *; omega
          case w7 => exact List.forall_mem_cons.mpr ⟨by k_ne, hZL⟩
          case w8 => exact List.forall_mem_cons.mpr ⟨by k_ne, hZR⟩

/-- what a token does to the count of ups and to the names -/
def goStep (st : Int × List (List Nat)) (p : Nat × List Nat) : Int × List (List Nat) :=
  if p.1 = 1 then (st.1, st.2 ++ [p.2]) else if st.2 = [] then (st.1 + (if p.1 = 23 then 1 else 3), st.2) else st
def goUp (ts : List (Nat × List Nat)) : Int × List (List Nat) := ts.foldl goStep (-1, [])
theorem goUp_snoc (ts : List (Nat × List Nat)) (p : Nat × List Nat) : goUp (ts ++ [p]) = goStep (goUp ts) p := by unfold goUp; rw [List.foldl_append]; rfl
theorem goStep_le (st : Int × List (List Nat)) (p : Nat × List Nat) : (goStep st p).1 ≤ st.1 + 3 ∧ st.1 ≤ (goStep st p).1 ∧ (goStep st p).2.length ≤ st.2.length + 1 := by
  unfold goStep
  split
  · simp; omega
  · split
    · split <;> simp <;> omega
    · simp; omega
theorem goFold_le : ∀ (ts : List (Nat × List Nat)) (st : Int × List (List Nat)), (ts.foldl goStep st).1 ≤ st.1 + 3 * ts.length ∧ st.1 ≤ (ts.foldl goStep st).1 ∧ (ts.foldl goStep st).2.length ≤ st.2.length + ts.length
  | [], st => by simp
  | p :: r, st => by
    have h1 := goStep_le st p
    have h2 := goFold_le r (goStep st p)
    simp only [List.foldl_cons, List.length_cons]
    omega
theorem goUp_le (ts : List (Nat × List Nat)) : (goUp ts).1 ≤ 3 * ts.length ∧ -1 ≤ (goUp ts).1 ∧ (goUp ts).2.length ≤ ts.length := by
  have := goFold_le ts (-1, [])
  unfold goUp
  simp only [List.length_nil] at this
  omega
theorem goStep_ucs {st : Int × List (List Nat)} {p : Nat × List Nat} (h : ∀ q ∈ st.2, Ucs q) (hp : Ucs p.2) : ∀ q ∈ (goStep st p).2, Ucs q := by
  unfold goStep
  split
  · intro q hq
    rcases List.mem_append.mp hq with hq | hq
    · exact h q hq
    · rw [List.mem_singleton.mp hq]; exact hp
  · split <;> exact h
theorem goFold_ucs : ∀ (ts : List (Nat × List Nat)) (st : Int × List (List Nat)), (∀ q ∈ st.2, Ucs q) → (∀ p ∈ ts, Ucs p.2) → ∀ q ∈ (ts.foldl goStep st).2, Ucs q
  | [], _, h, _ => h
  | p :: r, st, h, k => goFold_ucs r (goStep st p) (goStep_ucs h (k p (by simp))) fun q hq => k q (List.mem_cons_of_mem _ hq)
theorem goUp_ucs {ts : List (Nat × List Nat)} (h : ∀ p ∈ ts, Ucs p.2) : ∀ q ∈ (goUp ts).2, Ucs q := goFold_ucs ts _ (fun _ h => nomatch h) h
def outPath (row : List (List Nat)) (g : Int × List (List Nat)) : List (List Nat) := row ++ (List.replicate g.1.toNat [46, 46] ++ g.2)
theorem iseof_ok {w : World} {A : Around} {E : Value → Shared → Prop} {s : Shared} {V : Program} {Lo : List Str} {mg mb : Str → Option Value} {Q : Value → Shared → Prop} {z : Int} {t : Tok}
  (X : (hd.heap_1 w.params).In s.heap) (T : TR V Lo mg mb s.heap) (hdp : A.depth + 5 < recursionLimit) (hu : A.units + 100 < cLine)
  (h : ∀ h' t', s.heap.StaysIn h' → Q (.bool (z == 0)) { s with heap := h', toks := t' }) :
  wpAny (model Pg w) A (call (.ref 166) [.int z t]) Q E s := by
  w_on
  refine' enter (K := hd.heap_1 w.params) (args := ⟨[.int z t], []⟩) (binds := [(Str.ofString "x", .int z t)]) X T ?k1 ?k2 ?k3 ?k4 ?k5 ?_ ?k6 ?k7 ?k8 ?k9
  walk_at "my:cases"
  intro L' h₁ F N
  dsimp only [List.reverse, List.reverseAux] at F
  k_fold
  k_steps
  exact h _ _ (Fr.keep (by assumption))
theorem my_ditem {prog : Program} {w : World} {A : Around} {E : Value → Shared → Prop} {s : Shared} {h₀ : Heap} {L d : Addr} {news : List (Addr × Obj)} {o : Obj} {kvs : List (Int × Value)} {value slice : Expr} {v : Value} {k : Int} {t : Tok} {Q : Value → Shared → Prop}
    (N : News h₀ L s.heap news) (hp : (d, o) ∈ news) (hd : o.IsDictOf (PySem.intKind prog w) kvs) (hl : valueAt kvs k = some v) (hv : ∀ a, v ≠ .ref a) (h : Q v { s with toks := s.toks + 1 })
    (hs : subscripted slice false (.ref d) (.int k t) = operate [.ref d, .int k t] (getItem (.ref d) (.int k t)) := by with_unfolding_all rfl) : wpAny (model prog w) A (subscriptTail value slice (.ref d) (.int k t)) Q E s :=
  have hD := kda_dict N hp hd
  subscriptTail_builtin_flat hD.typeIs slot_dict_getitem.lookup (wpAny_getItem_of (intKind_is _ _ _ _) hD.mapOf hl ⟨hv, h⟩) hs
local macro_rules | `(tactic| walk_at "call ref") => `(tactic| (k_here; (with_reducible show wpAny _ _ (call (Value.ref 166) _ _) _ _ _); refine' iseof_ok ?sX ?sT ?sd ?su ?_; walk_at "my:site"; intro _ _ _; walk_at "my:carry"))
local macro_rules | `(tactic| walk_at "StarOf ref") => `(tactic| (k_here; refine held ?_))
local macro_rules | `(tactic| walk_at "eval Dict") => `(tactic| (k_here; refine held ?_))
local macro_rules | `(tactic| walk_at "subscriptTail Dict cons cons Name ref int") => `(tactic| (k_here; refine held ?_))
/-- what holds between the turns of _law_reached's loop -/
abbrev GInv (NL : Addr) (ts : List (Nat × List Nat)) (m₀ : Str → Option Value) (i : Nat) (m : Str → Option Value) (nx : List (Addr × Obj)) : Prop := ∃ us k u, m (Str.ofString "ups") = some (.int (goUp (ts.take i)).1 u) ∧ Keeps [Str.ofString "ups", Str.ofString "number", Str.ofString "word"] m m₀ ∧ nx = [(NL, listOf (List.toArray us) k)] ∧ Txs us (goUp (ts.take i)).2 ∧ i ≤ ts.length
theorem reached_ok {w : World} {A : Around} {E : Value → Shared → Prop} {s : Shared} {V : Program} {Lo : List Str} {mg mb : Str → Option Value} {Q : Value → Shared → Prop} {row : List (List Nat)} {t : Tok} {R : Addr} {vs : List Value} {n : Nat} {ts : List (Nat × List Nat)} {ds : List (List Nat)}
  (X : (hd.heap_1 w.params).In s.heap) (T : TR V Lo mg mb s.heap) (hdp : A.depth + 30 < recursionLimit) (hu : A.units + 300 < cLine) (hh : A.handled = none)
  (hR : s.heap.get? R = some (listOf vs.toArray n)) (htk : Tk (fun a o => s.heap.get? a = some o) vs (ts ++ [(0, [])])) (hp : ∀ p ∈ ts, (p.1 = 1 ∨ p.1 = 23 ∨ p.1 = 52) ∧ Ucs p.2) (hl : ts.length ≤ 1000)
  (hrow : ∀ p ∈ row, Part p ∧ p ≠ [46]) (hns : ∀ p ∈ (goUp ts).2, Part p ∧ p ≠ [46]) (hz : (tx (47 :: jn 47 (outPath row (goUp ts)))).length ≤ 1000) (hn : nrm (outPath row (goUp ts)) = ds)
  (h : ∀ h' t' u, s.heap.StaysIn h' → Q (.str (tx (47 :: jn 47 ds)) u) { s with heap := h', toks := t' }) :
  wpAny (model Pg w) A (call (.ref 192) [.str (tx (47 :: jn 47 row)) t, .ref R]) Q E s := by
  obtain ⟨hd0, d0, fr0, gu0, un0⟩ := A
  dsimp only at hh hdp hu
  subst hh
  w_on
  have hvl := htk.length
  rw [List.length_append, List.length_singleton] at hvl
  refine' enter (K := hd.heap_1 w.params) (args := ⟨[.str (tx (47 :: jn 47 row)) t, .ref R], []⟩) (binds := [(Str.ofString "here", .str (tx (47 :: jn 47 row)) t), (Str.ofString "read", .ref R)]) X T ?k1 ?k2 ?k3 ?k4 ?k5 ?_ ?k6 ?k7 ?k8 ?k9
  walk_at "my:cases"
  intro L' h₁ F N
  dsimp only [List.reverse, List.reverseAux] at F
  k_fold
  k_steps
  (with_reducible rename Fr _ _ _ _ => kF)
  (with_reducible rename News _ _ _ _ => kN)
  refine withMap kF (fun m₀ hm₀ F0 => ?_)
  clear kF
  refine newsOne kN (fun NL hNL kN1 => ?_)
  subst hNL
  clear kN
  refine' loop_list (keep := []) rfl F0 kN1 (F0.keep _ _ hR) ⟨rfl, rfl⟩ (.inl hR) (frNe F0 hR)
    (GInv NL ts m₀) ?hk ?h0 ?turn ?done
  case hk => intro i m nx _ p hp; cases hp
  case h0 => subst hm₀; exact ⟨[], _, _, rfl, Keeps.refl, rfl, .nil, Nat.zero_le _⟩
  case done =>
    rintro m₁ news₁ h₂ tk₂ ⟨us, k, u, _, _, _, _, hi⟩ F1 N1
    omega
  case turn =>
    rintro i v m₁ news₁ h₂ tk₂ own hi ⟨us, k, u, e1, hk, rfl, hus, hil⟩ hoff F1 N1
    obtain ⟨a, c, x, t1, u1, rfl, ha, hc⟩ := htk.get hi
    have hTt : h₂.IsTuple a #[.int (c : Int) t1, .str (tx x) u1] := ⟨_, F1.keep _ _ ha, rfl, 0, rfl⟩
    obtain ⟨v1, v2, rfl⟩ := mf1k2u e1 hk
    subst hm₀
    clear F0 kN1 hk e1
    have hz0 : ∀ p ∈ [(NL, listOf (List.toArray us) k)], ∀ q ∈ own, q.1 ≠ p.1 := fun p hp q hq => by rw [List.mem_singleton.mp hp]; exact hoff q hq NL (.head _)
    have hz1 : ∀ p ∈ own, p.1 ≠ NL := fun p hp => hoff p hp NL (.head _)
    have hgl := goUp_le (ts.take i)
    have htl : (ts.take i).length ≤ 1000 := by rw [List.length_take]; omega
    have hul := hus.length
    have huz : us.length ≤ 1000 := by omega
    dsimp only [List.cons_append, List.nil_append] at F1 N1 ⊢
    by_cases hlast : i = ts.length
    · subst hlast
      rw [List.getElem?_append_right (Nat.le_refl _)] at hc
      simp only [Nat.sub_self, List.getElem?_cons_zero, Option.some.injEq, Prod.mk.injEq] at hc
      obtain ⟨rfl, rfl⟩ := hc
      rw [List.take_length] at hus hgl F1
      have hcs : ∀ p ∈ outPath row (goUp ts), Part p ∧ p ≠ [46] := by
        intro p hp
        rcases List.mem_append.mp hp with hp | hp
        · exact hrow p hp
        · rcases List.mem_append.mp hp with hp | hp
          · rw [List.eq_of_mem_replicate hp]; exact ⟨⟨by decide, by decide⟩, by decide⟩
          · exact hns p hp
      k_steps
      unfold Held
      (k_dflt (refine' star_seq ?qk18 ?qk28 ?qm8 ?qc8 ?qd8 ?qT8 ?qe8 ?qz8 ?_; (case qk18 => k_asm); (case qk28 => k_asm); (case qm8 => k_mem); (case qc8 => exact rfl); (case qd8 => exact rfl); (case qT8 => first | exact .inl rfl | exact .inr rfl); (case qe8 => exact rfl); (case qz8 => (rw [List.size_toArray, sizeLine_eq]; walk_at "my:size")); k_whole); intro h' F' N'; (try k_sweep); try dsimp only [List.nil_append, List.cons_append])
      k_steps
      refine' join_ok (ps := List.replicate (goUp ts).1.toNat [46, 46] ++ (goUp ts).2) ?sX ?sT ?sd ?su ?hh ?jv ?jr ?jp ?jz ?_
      walk_at "my:site"
      case hh => rfl
      case jv =>
        rw [List.append_nil, lit_dd]
        exact (Txs.rep _).app hus
      case jr => exact fun p hp => (hrow p hp).1
      case jp => exact fun p hp => (hcs p (List.mem_append_right _ hp)).1
      case jz => exact hz
      intro _ _ _ _
      walk_at "my:carry"
      k_steps
      unfold Held
      refine' normpath_ok ?sX ?sT ?sd ?su ?qhh9 ?qc9 ?qz9 ?qn9 ?_
      walk_at "my:site"
      case qhh9 => first | rfl | assumption
      case qc9 => assumption
      case qz9 => assumption
      case qn9 => first | assumption | rfl
      intro _ _ _ _
      walk_at "my:carry"
      k_steps
      exact h _ _ _ (Fr.keep (by assumption))
    · have hc' : ts[i]? = some (c, x) := by rw [List.getElem?_append_left (by omega)] at hc; exact hc
      have hpc := hp (c, x) (List.mem_of_getElem? hc')
      have hst : goUp (ts.take (i + 1)) = goStep (goUp (ts.take i)) (c, x) := by rw [List.take_add_one, hc', ← goUp_snoc]; rfl
      have hcs : ∀ p ∈ (goUp (ts.take i)).2, Ucs p := goUp_ucs fun p hp' => (hp p (List.mem_of_mem_take hp')).2
      revert hst
      revert hus
      revert hgl
      revert hcs
      revert F1
      generalize goUp (ts.take i) = g
      obtain ⟨g1, g2⟩ := g
      intro F1 hcs hgl hus hst
      dsimp only at F1 hcs hgl hus hst
      rcases hpc.1 with hc1 | hc1
      · dsimp only at hc1
        subst hc1
        k_steps
        (with_reducible rename News _ _ _ _ => kN)
        refine' MyTurnEnd.intro (nx := [(NL, _)]) (by assumption) kN (fun p hp => hp) (.cons rfl .nil) ⟨_, _, _, ?w1, keeps3 ?w2, rfl, ?w3, by omega⟩
        case w1 => rw [hst]; exact rfl
        case w2 => intro z h1 h2 h3; simp only [if_neg h1, if_neg h2, if_neg h3]
        case w3 => rw [hst]; exact hus.snoc x u1
      · by_cases hg : g2 = []
        · subst hg
          cases hus
          rcases hc1 with hc1 | hc1
          · dsimp only at hc1
            subst hc1
            have hTx : Txs [] [] := .nil
            k_steps
            unfold Held
            (k_dflt (refine' kdn_int ?qq10 ?qF10 ?qN10 ?qb10 ?qa10 ?ql10 ?qe10 ?qn10 ?_; (case qq10 => rfl); (case qF10 => k_asm); (case qN10 => first | k_asm | exact News.nil); (case qb10 => exact TopRead.nolimit (by k_asm)); (case qa10 => rfl); (case ql10 => rfl); (case qe10 => exact List.cons_ne_nil _ _); (case qn10 => exact Nat.le_of_ble_eq_true rfl)); intro d' h' o' F' N' l1 lo' hd'; (try k_lt l1))
            k_steps
            unfold Held
            (k_dflt (refine my_ditem (by k_asm) (by k_mem) (by k_asm) (by rfl) (by intro _ q; cases q) ?_))
            k_steps
            (with_reducible rename News _ _ _ _ => kN)
            refine' MyTurnEnd.intro (nx := [(NL, listOf #[] k)]) (by assumption) kN ?w0 (.cons rfl .nil) ⟨[], k, _, ?w1, keeps3 ?w2, rfl, ?w3, by omega⟩
            case w0 => exact fun p hp => List.mem_cons_of_mem _ (List.mem_cons_of_mem _ hp)
            case w1 => rw [hst]; exact rfl
            case w2 => intro z h1 h2 h3; simp only [if_neg h1, if_neg h2, if_neg h3]
            case w3 => rw [hst]; exact .nil
          · dsimp only at hc1
            subst hc1
            have hTx : Txs [] [] := .nil
            k_steps
            unfold Held
            (k_dflt (refine' kdn_int ?qq11 ?qF11 ?qN11 ?qb11 ?qa11 ?ql11 ?qe11 ?qn11 ?_; (case qq11 => rfl); (case qF11 => k_asm); (case qN11 => first | k_asm | exact News.nil); (case qb11 => exact TopRead.nolimit (by k_asm)); (case qa11 => rfl); (case ql11 => rfl); (case qe11 => exact List.cons_ne_nil _ _); (case qn11 => exact Nat.le_of_ble_eq_true rfl)); intro d' h' o' F' N' l1 lo' hd'; (try k_lt l1))
            k_steps
            unfold Held
            (k_dflt (refine my_ditem (by k_asm) (by k_mem) (by k_asm) (by rfl) (by intro _ q; cases q) ?_))
            k_steps
            (with_reducible rename News _ _ _ _ => kN)
            refine' MyTurnEnd.intro (nx := [(NL, listOf #[] k)]) (by assumption) kN ?w0 (.cons rfl .nil) ⟨[], k, _, ?w1, keeps3 ?w2, rfl, ?w3, by omega⟩
            case w0 => exact fun p hp => List.mem_cons_of_mem _ (List.mem_cons_of_mem _ hp)
            case w1 => rw [hst]; exact rfl
            case w2 => intro z h1 h2 h3; simp only [if_neg h1, if_neg h2, if_neg h3]
            case w3 => rw [hst]; exact .nil
        · have he : g2.isEmpty = false := List.isEmpty_eq_false_iff.mpr hg
          have hst' : goStep (g1, g2) (c, x) = (g1, g2) := by
            unfold goStep
            rw [if_neg (by omega), if_neg hg]
          rw [hst'] at hst
          have hcne : ¬ ((c : Int) = 1) := by omega
          have hcne0 : ¬ ((c : Int) = 0) := by omega
          have hb1 : ((c : Int) == 1) = false := by simpa using hcne
          have hb0 : ((c : Int) == 0) = false := by simpa using hcne0
          k_steps
          (with_reducible rename News _ _ _ _ => kN)
          refine' MyTurnEnd.intro (nx := [(NL, listOf us.toArray k)]) (by assumption) kN ?w0 (.cons rfl .nil) ⟨_, _, _, ?w1, keeps3 ?w2, rfl, ?w3, by omega⟩
          case w0 => exact fun p hp => List.mem_cons_of_mem _ hp
          case w1 => rw [hst]; exact rfl
          case w2 => intro z h1 h2 h3; simp only [if_neg h1, if_neg h2, if_neg h3]
          case w3 => rw [hst]; exact hus

/-- a name of the law: letters a and b -/
def Ab (p : List Nat) : Prop := p ≠ [] ∧ ∀ c ∈ p, c = 97 ∨ c = 98
theorem sp_dot (r : List Nat) : sp (46 :: r) = 46 :: r := rfl
theorem toldR_three (k : Nat) : toldR (k + 3) = (52, [46, 46, 46]) :: toldR k := by
  unfold toldR
  have e1 : (k + 3) / 3 = k / 3 + 1 := by omega
  have e2 : (k + 3) % 3 = k % 3 := by omega
  rw [e1, e2, List.replicate_succ]; rfl
theorem rd_dots (rest : List Nat) (ts : List (Nat × List Nat)) (hr : rest.head? ≠ some 46) (h : Rd (sp rest) ts) : ∀ k : Nat, Rd (sp (List.replicate k 46 ++ rest)) (toldR k ++ ts)
  | 0 => h
  | 1 => by
    show Rd (46 :: rest) ((23, [46]) :: ts)
    refine .one ?_ h
    intro e
    apply hr
    cases rest with
    | nil => cases e
    | cons c r => simp only [List.take_succ_cons, List.cons.injEq] at e; rw [e.1]; rfl
  | 2 => by
    show Rd (46 :: 46 :: rest) ((23, [46]) :: (23, [46]) :: ts)
    have h1 : Rd (sp (46 :: rest)) ((23, [46]) :: ts) := rd_dots rest ts hr h 1
    refine .one ?_ h1
    intro e
    apply hr
    cases rest with
    | nil => cases e
    | cons c r => simp only [List.take_succ_cons, List.take_zero, List.cons.injEq] at e; rw [e.2.1]; rfl
  | k + 3 => by
    have ih := rd_dots rest ts hr h k
    rw [toldR_three]
    show Rd (sp (46 :: 46 :: 46 :: (List.replicate k 46 ++ rest))) _
    exact .three ih
theorem ab_head {p r : List Nat} (h : Ab p) : ∃ c, (p ++ r).head? = some c ∧ (c = 97 ∨ c = 98) := by
  obtain ⟨h1, h2⟩ := h
  cases p with
  | nil => exact absurd rfl h1
  | cons c p => exact ⟨c, rfl, h2 c (by simp)⟩
theorem sp_ab {p r : List Nat} (h : Ab p) : sp (p ++ r) = p ++ r := by
  obtain ⟨h1, h2⟩ := h
  cases p with
  | nil => exact absurd rfl h1
  | cons c p =>
    rcases h2 c (by simp) with rfl | rfl
    · rfl
    · rfl
theorem jn_ab_head {ns : List (List Nat)} (h : ∀ p ∈ ns, Ab p) : ns = [] ∨ ∃ c, (jn 46 ns).head? = some c ∧ (c = 97 ∨ c = 98) := by
  match ns, h with
  | [], _ => exact .inl rfl
  | [p], h =>
    obtain ⟨c, h1, h2⟩ := ab_head (r := []) (h p (by simp))
    rw [List.append_nil] at h1
    exact .inr ⟨c, h1, h2⟩
  | p :: q :: r, h =>
    obtain ⟨c, h1, h2⟩ := ab_head (r := 46 :: jn 46 (q :: r)) (h p (by simp))
    exact .inr ⟨c, h1, h2⟩
theorem jn_ab_not {ns : List (List Nat)} (h : ∀ p ∈ ns, Ab p) : (jn 46 ns).head? ≠ some 46 := by
  rcases jn_ab_head h with rfl | ⟨c, h1, h2⟩
  · simp [jn]
  · rw [h1]; intro e; cases e; omega
theorem sp_names {ns : List (List Nat)} (h : ∀ p ∈ ns, Ab p) : sp (jn 46 ns) = jn 46 ns := by
  match ns, h with
  | [], _ => rfl
  | [p], h =>
    have := sp_ab (r := []) (h p (by simp))
    rw [List.append_nil] at this
    exact this
  | p :: q :: r, h => exact sp_ab (r := 46 :: jn 46 (q :: r)) (h p (by simp))
theorem rd_names : ∀ {ns : List (List Nat)}, (∀ p ∈ ns, Ab p) → Rd (jn 46 ns) (toldN ns)
  | [], _ => .nil
  | [p], h => by
    have h1 := h p (by simp)
    have e : jn 46 [p] = p ++ [] := (List.append_nil p).symm
    rw [e]
    exact .name h1.1 h1.2 (fun c hc => by cases hc) .nil
  | p :: q :: r, h => by
    have h1 := h p (by simp)
    have hq : ∀ p ∈ q :: r, Ab p := fun p hp => h p (List.mem_cons_of_mem _ hp)
    have ih := rd_names hq
    show Rd (p ++ 46 :: jn 46 (q :: r)) ((1, p) :: (23, [46]) :: toldN (q :: r))
    refine .name h1.1 h1.2 (fun c hc => by cases hc; decide) ?_
    show Rd (46 :: jn 46 (q :: r)) _
    refine .one ?_ (by rw [sp_names hq]; exact ih)
    intro e
    apply jn_ab_not hq
    cases hj : jn 46 (q :: r) with
    | nil => rw [hj] at e; cases e
    | cons c l => rw [hj] at e; simp only [List.take_succ_cons, List.cons.injEq] at e; rw [e.1]; rfl
/-- the text with one run of dots -/
theorem rd_one {ns : List (List Nat)} (h : ∀ p ∈ ns, Ab p) (k : Nat) : Rd (sp (List.replicate k 46 ++ jn 46 ns)) ([k].flatMap toldR ++ toldN ns) := by
  have := rd_dots (jn 46 ns) (toldN ns) (jn_ab_not h) (by rw [sp_names h]; exact rd_names h) k
  simpa using this
/-- the text with a blank between two runs -/
theorem rd_two {ns : List (List Nat)} (h : ∀ p ∈ ns, Ab p) (b k : Nat) : Rd (sp (List.replicate b 46 ++ (32 :: (List.replicate k 46 ++ jn 46 ns)))) ([b, k].flatMap toldR ++ toldN ns) := by
  have h1 := rd_one h k
  have := rd_dots (32 :: (List.replicate k 46 ++ jn 46 ns)) _ (by simp) (show Rd (sp (List.replicate k 46 ++ jn 46 ns)) _ from h1) b
  simpa using this
theorem jn_alpha : ∀ {ns : List (List Nat)}, (∀ p ∈ ns, Ab p) → (jn 46 ns).all alpha = true
  | [], _ => rfl
  | [p], h => by
    rw [List.all_eq_true]
    intro c hc
    rcases (h p (by simp)).2 c hc with rfl | rfl <;> rfl
  | p :: q :: r, h => by
    have ih := jn_alpha (ns := q :: r) fun p hp => h p (List.mem_cons_of_mem _ hp)
    show (p ++ 46 :: jn 46 (q :: r)).all alpha = true
    rw [List.all_append, List.all_cons, ih]
    have : p.all alpha = true := by
      rw [List.all_eq_true]
      intro c hc
      rcases (h p (by simp)).2 c hc with rfl | rfl <;> rfl
    rw [this]; rfl
theorem rep_alpha (k : Nat) : (List.replicate k 46).all alpha = true := by
  rw [List.all_eq_true]
  intro c hc
  rw [List.eq_of_mem_replicate hc]; rfl
theorem all_app {a b : List Nat} (h : a.all alpha = true) (k : b.all alpha = true) : (a ++ b).all alpha = true := by rw [List.all_append, h, k]; rfl
/-! where the tokens lead -/
theorem goFold_dots (u : Int) : ∀ k : Nat, (toldR k).foldl goStep (u, []) = (u + k, [])
  | 0 => by simp [toldR]
  | 1 => by simp [toldR, goStep]
  | 2 => by simp [toldR, goStep]; omega
  | k + 3 => by
    rw [toldR_three, List.foldl_cons]
    have e : goStep (u, []) (52, [46, 46, 46]) = (u + 3, []) := rfl
    rw [e, goFold_dots (u + 3) k]
    simp; omega
theorem goFold_runs (u : Int) : ∀ rs : List Nat, (rs.flatMap toldR).foldl goStep (u, []) = (u + (rs.sum : Nat), [])
  | [] => by simp
  | c :: r => by
    rw [List.flatMap_cons, List.foldl_append, goFold_dots, goFold_runs]
    simp; omega
theorem goFold_names (u : Int) : ∀ (ns ms : List (List Nat)), (toldN ns).foldl goStep (u, ms) = (u, ms ++ ns)
  | [], ms => by simp [toldN]
  | [p], ms => by simp [toldN, goStep]
  | p :: q :: r, ms => by
    have ih := goFold_names u (q :: r) (ms ++ [p])
    simp only [toldN, List.foldl_cons]
    have e1 : goStep (u, ms) (1, p) = (u, ms ++ [p]) := by simp [goStep]
    have e2 : goStep (u, ms ++ [p]) (23, [46]) = (u, ms ++ [p]) := by simp [goStep]
    rw [e1, e2]
    refine ih.trans ?_
    simp
theorem goUp_told (rs : List Nat) (ns : List (List Nat)) : goUp (rs.flatMap toldR ++ toldN ns) = ((-1 : Int) + (rs.sum : Nat), ns) := by
  unfold goUp
  rw [List.foldl_append, goFold_runs, goFold_names]; rfl
/-! the way from a place -/
theorem min_up (a k : Nat) : min (min (a - k) a - 1) (a - k) = a - (k + 1) := by
  rw [Nat.min_eq_left (Nat.sub_le a k), Nat.min_eq_left (Nat.sub_le _ 1), Nat.sub_sub]
theorem nrm_up (acc : List (List Nat)) : ∀ k : Nat, (List.replicate k [46, 46]).foldl nrmStep acc = acc.take (acc.length - k)
  | 0 => by simp
  | k + 1 => by
    rw [List.replicate_succ', List.foldl_append, nrm_up acc k]
    show nrmStep (acc.take (acc.length - k)) [46, 46] = _
    unfold nrmStep
    rw [if_pos rfl, List.dropLast_eq_take, List.take_take, List.length_take, min_up]
theorem nrm_out {row ns : List (List Nat)} (h1 : ∀ p ∈ row, Nm p) (h2 : ∀ p ∈ ns, Nm p) (k : Nat) : nrm (row ++ (List.replicate k [46, 46] ++ ns)) = row.take (row.length - k) ++ ns := by
  unfold nrm
  rw [List.foldl_append, List.foldl_append, nrm_id [] fun p hp => (h1 p hp).2.2, List.nil_append, nrm_up, nrm_id _ fun p hp => (h2 p hp).2.2]
theorem ab_nm {p : List Nat} (h : Ab p) : Nm p := by
  obtain ⟨h1, h2⟩ := h
  refine ⟨⟨h1, fun hc => ?_⟩, fun e => ?_, fun e => ?_⟩
  · rcases h2 47 hc with h | h <;> cases h
  · rcases h2 46 (by rw [e]; simp) with h | h <;> cases h
  · rcases h2 46 (by rw [e]; simp) with h | h <;> cases h
theorem ab_ucs {p : List Nat} (h : Ab p) : Ucs p := by
  refine alpha_ucs (List.all_eq_true.mpr fun c hc => ?_)
  rcases h.2 c hc with rfl | rfl <;> rfl
theorem told_ucs {rs : List Nat} {ns : List (List Nat)} (h : ∀ p ∈ ns, Ab p) : ∀ t ∈ rs.flatMap toldR ++ toldN ns, (t.1 = 1 ∨ t.1 = 23 ∨ t.1 = 52) ∧ Ucs t.2 := by
  intro t ht
  rcases List.mem_append.mp ht with ht | ht
  · obtain ⟨c, _, ht⟩ := List.mem_flatMap.mp ht
    rcases List.mem_append.mp ht with ht | ht
    · rw [List.eq_of_mem_replicate ht]; exact ⟨.inr (.inr rfl), rfl⟩
    · rw [List.eq_of_mem_replicate ht]; exact ⟨.inr (.inl rfl), rfl⟩
  · have key : ∀ {ns : List (List Nat)}, (∀ p ∈ ns, Ab p) → ∀ t ∈ toldN ns, (t.1 = 1 ∨ t.1 = 23 ∨ t.1 = 52) ∧ Ucs t.2 := by
      intro ns
      induction ns with
      | nil => intro _ t ht; cases ht
      | cons p r ih =>
        intro h t ht
        have hp := ab_ucs (h p (by simp))
        have ih := ih fun q hq => h q (List.mem_cons_of_mem _ hq)
        cases r with
        | nil =>
          rw [List.mem_singleton.mp ht]
          exact ⟨.inl rfl, hp⟩
        | cons q r =>
          rcases List.mem_cons.mp ht with rfl | ht
          · exact ⟨.inl rfl, hp⟩
          · rcases List.mem_cons.mp ht with rfl | ht
            · exact ⟨.inr (.inl rfl), rfl⟩
            · exact ih t ht
    exact key h t ht

theorem newsAdd {h₀ h h' : Heap} {L R : Addr} {m : Str → Option Value} {o : Obj} {news Z : List (Addr × Obj)} (F : Fr h₀ L h m) (N : News h₀ L h' news) (hZ : ∀ p ∈ (R, o) :: Z, h'.get? p.1 = some p.2 ∧ h.get? p.1 = none) : News h₀ L h' ((R, o) :: (news ++ Z)) := by
  have key : ∀ p ∈ (R, o) :: Z, h'.get? p.1 = some p.2 ∧ p.1 ≠ L ∧ h₀.get? p.1 = none := fun p hp => by
    obtain ⟨h1, h2⟩ := hZ p hp
    refine ⟨h1, fun e => ?_, ?_⟩
    · obtain ⟨o', _, _, ho, _⟩ := F.ns
      rw [e, ho] at h2; cases h2
    · cases q : h₀.get? p.1 with
      | none => rfl
      | some o' => have := F.keep _ _ q; rw [h2] at this; cases this
  intro p hp
  rcases List.mem_cons.mp hp with rfl | hp
  · exact key _ (.head _)
  · rcases List.mem_append.mp hp with hp | hp
    · exact N p hp
    · exact key p (.tail _ hp)
def tokd (p : Nat × List Nat) : PyData := .tuple [.int (p.1 : Int), .str (tx p.2)]
theorem toks_reads {h : Heap} {vs : List Value} {ts : List (Nat × List Nat)} (k : Tk (fun a o => h.get? a = some o) vs ts) : ∃ as, ReadsAll h vs (ts.map tokd) as := by
  induction k with
  | nil => exact ⟨[], .nil⟩
  | cons ha _ ih =>
    obtain ⟨as, r⟩ := ih
    exact ⟨_, .cons (reads_newDataT (ys := [_, _]) ⟨_, ha, rfl, 0, rfl⟩ (.cons (.int _ _) (.cons (.str _ _) .nil))) r⟩
theorem toks_lay : ∀ {ts : List (Nat × List Nat)}, (∀ p ∈ ts, Ucs p.2) → PyData.canLayAll0 (ts.map tokd) = true
  | [], _ => rfl
  | q :: r, h => by
    have h1 := ucs_ok (h q (by simp))
    have h2 := toks_lay (ts := r) fun p hp => h p (List.mem_cons_of_mem _ hp)
    simp [tokd, PyData.canLayAll0, PyData.canLay0, h1, h2]
theorem toks_depth : ∀ ts : List (Nat × List Nat), PyData.depthAll (ts.map tokd) ≤ 1
  | [] => by simp [PyData.depthAll]
  | _ :: r => by
    have := toks_depth r
    simp [PyData.depthAll, PyData.depth, tokd, this]
theorem toks_shaped {ts : List (Nat × List Nat)} (h : ∀ p ∈ ts, Ucs p.2) : SeqAt.shaped (.list (ts.map tokd)) = true := by
  have := toks_depth ts
  simp only [SeqAt.shaped, PyData.canLay0, PyData.depth, toks_lay h, Bool.true_and]
  exact decide_eq_true (Nat.le_trans (Nat.add_le_add_right this 1) (by decide))
theorem toks_eqv : ∀ ts : List (Nat × List Nat), PyData.eqvAll (ts.map tokd) (ts.map tokd) = true
  | [] => rfl
  | _ :: r => by simp [PyData.eqvAll, PyData.eqv, tokd, toks_eqv r]
section
variable {prog : Program} {w : World} {A : Around} {E : Value → Shared → Prop} {s : Shared} {Q : Value → Shared → Prop} {D B : Addr} {us vs : List Value} {ts : List (Nat × List Nat)} {n n2 : Nat}
theorem my_ne_toks (hg : s.heap.get? D = some (listOf us.toArray n)) (hg2 : s.heap.get? B = some (listOf vs.toArray n2)) (hu1 : Tk (fun a o => s.heap.get? a = some o) us ts) (hv1 : Tk (fun a o => s.heap.get? a = some o) vs ts) (hk : ∀ p ∈ ts, Ucs p.2) (hu : A.units + 64 < cLine) (h : Q (.bool false) s) :
    wpAny (model prog w) A (compareOp .NotEq (.ref D) (.ref B)) Q E s := by
  obtain ⟨as, r1⟩ := toks_reads hu1
  obtain ⟨bs, r2⟩ := toks_reads hv1
  refine ne_dataH (.list hg rfl rfl (by simpa using r1)) (.list hg2 rfl rfl (by simpa using r2)) (toks_shaped hk) (toks_shaped hk) hu ?_
  have e : PyData.eqv (.list (ts.map tokd)) (.list (ts.map tokd)) = true := by simp only [PyData.eqv]; exact toks_eqv ts
  rw [e]; exact h
end
theorem Tk.inNews {h₀ h : Heap} {L : Addr} {news Z : List (Addr × Obj)} {vs : List Value} {ts : List (Nat × List Nat)} (k : Tk (inL Z) vs ts) (N : News h₀ L h news) (hs : ∀ p ∈ Z, p ∈ news) : Tk (fun a o => h.get? a = some o) vs ts := k.mono fun a o q => (N (a, o) (hs _ q)).1
theorem rep_fold : ∀ (k : Nat) (acc : Array Nat), (List.replicate k (#[46] : Array Nat)).foldl (· ++ ·) acc = acc ++ (List.replicate k 46).toArray
  | 0, acc => by simp
  | k + 1, acc => by
    rw [List.replicate_succ, List.foldl_cons, rep_fold k, List.replicate_succ]
    apply Array.toList_inj.mp
    simp
theorem txmul {n : Int} (h0 : 0 ≤ n) : PySem.Txt.mul (tx [46]) n = tx (List.replicate n.toNat 46) := by
  unfold PySem.Txt.mul
  by_cases h1 : n < 1
  · have : n = 0 := by omega
    subst this; rfl
  · rw [if_neg h1]
    by_cases h2 : n = 1
    · subst h2; rfl
    · have h3 : (n == 1 || (tx [46]).length == 0) = false := by
        rw [Bool.or_eq_false_iff]; exact ⟨by simpa using h2, rfl⟩
      rw [h3, if_neg (by decide)]
      have := rep_fold n.toNat #[]
      show (⟨(List.replicate n.toNat (#[46] : Array Nat)).foldl (· ++ ·) #[]⟩ : Str) = _
      rw [this]
      exact Str.ext' (by simp [tx])
section
variable {prog : Program} {w : World} {A : Around} {E : Value → Shared → Prop} {s : Shared} {Q : Value → Shared → Prop}
theorem my_smul {y : Str} {n : Int} {t u : Tok} (hy : y = tx [46]) (h0 : 0 ≤ n) (h1 : n ≤ 1000) (h : ∀ t' k, Q (.str (tx (List.replicate n.toNat 46)) t') { s with toks := k }) : wpAny (model prog w) A (binaryOp .Mult (.str y t) (.int n u)) Q E s := by
  subst hy
  refine PySem.SB.mul (mulOk_of 1 1000 (by rw [tx_len]; exact Nat.le_refl _) (by omega) (by omega) (by decide) (by decide)) fun t' k => ?_
  rw [txmul h0]; exact h t' k
theorem txs_are {vs : List Value} {ps : List (List Nat)} (h : Txs vs ps) : StrsAre vs (ps.map tx) := by
  induction h with
  | nil => exact .nil
  | cons _ ih => exact .cons _ _ ih
theorem count_tx (x : List Nat) : ∀ ps : List (List Nat), PySem.Spec.countIn (.str (tx x)) ((ps.map tx).map PyData.str) = ((ps.count x : Nat) : Int)
  | [] => rfl
  | p :: r => by
    have ih := count_tx x r
    simp only [List.map_cons, PySem.Spec.countIn, PySem.Spec.same, ih, List.count_cons, tx_beq]
    by_cases h : (p == x) = true
    · rw [if_pos h, if_pos h]; omega
    · rw [if_neg h, if_neg h]; omega
theorem my_count {D : Addr} {us : List Value} {n : Nat} {ps : List (List Nat)} {x : List Nat} {y : Str} {t : Tok} (hg : s.heap.get? D = some (listOf us.toArray n)) (hv : Txs us ps) (hy : y = tx x) (h : ∀ t' k, Q (.int (ps.count x : Nat) t') { s with toks := k }) :
    wpAny (model prog w) A (call (.builtin "list.count") [.ref D, .str y t]) Q E s := by
  subst hy
  refine count_list_strs ⟨_, hg, rfl, n, rfl⟩ (txs_are hv) ?_
  rw [count_tx]; exact h _ _
theorem my_notin {T : Addr} {x : List Nat} {u t1 t2 : Tok} (ht : IsTup s.heap T #[.str (Str.ofString ".") t1, .str (Str.ofString "..") t2]) (h : Q (.bool (!(x == [46] || x == [46, 46]))) s) : wpAny (model prog w) A (compareOp .NotIn (.str (tx x) u) (.ref T)) Q E s := by
  refine notin_tuple_strs ht (ys := [Str.ofString ".", Str.ofString ".."]) (.cons _ _ (.cons _ _ .nil)) ?_
  have e : ([Str.ofString ".", Str.ofString ".."].any fun z => z == tx x) = (x == [46] || x == [46, 46]) := by
    rw [lit_dot, lit_dd]
    simp only [List.any_cons, List.any_nil, Bool.or_false, tx_beq]
    have c1 : ∀ a b : List Nat, (a == b) = (b == a) := fun a b => by rw [Bool.eq_iff_iff, beq_iff_eq, beq_iff_eq]; exact eq_comm
    rw [c1 [46], c1 [46, 46]]
  rw [e]; exact h
end
/-- the pieces of the way -/
def pcs (row there : List (List Nat)) : List (List Nat) := if wayL row there = [] then [[46]] else wayL row there
theorem pcs_jn (row there : List (List Nat)) : wayT row there = jn 47 (pcs row there) := by
  unfold wayT pcs; split <;> rfl
theorem pcs_ne (row there : List (List Nat)) : pcs row there ≠ [] := by
  unfold pcs; split
  · simp
  · assumption
theorem way_mem {row there : List (List Nat)} {p : List Nat} (h : p ∈ wayL row there) : p = [46, 46] ∨ p ∈ row := by
  rcases List.mem_append.mp h with h | h
  · exact .inl (List.eq_of_mem_replicate h)
  · exact .inr (List.mem_of_mem_drop h)
theorem pcs_mem {row there : List (List Nat)} {p : List Nat} (h : p ∈ pcs row there) : p = [46] ∨ p = [46, 46] ∨ p ∈ row := by
  unfold pcs at h; split at h
  · exact .inl (List.mem_singleton.mp h)
  · exact .inr (way_mem h)
def isNm (q : List Nat) : Bool := !(q == [46] || q == [46, 46])
theorem isNm_ab {p : List Nat} (h : Ab p) : isNm p = true := by
  obtain ⟨_, h1, h2⟩ := ab_nm h
  simp [isNm, h1, h2]
theorem filter_ab {ns : List (List Nat)} (h : ∀ p ∈ ns, Ab p) : ns.filter isNm = ns := List.filter_eq_self.mpr fun p hp => isNm_ab (h p hp)
theorem filter_dd (k : Nat) : (List.replicate k [46, 46]).filter isNm = [] := by
  rw [List.filter_eq_nil_iff]
  intro p hp
  rw [List.eq_of_mem_replicate hp]; decide
theorem pcs_filter {row there : List (List Nat)} (h : ∀ p ∈ row, Ab p) : (pcs row there).filter isNm = row.drop (alk there row) := by
  have hd : ∀ p ∈ row.drop (alk there row), Ab p := fun p hp => h p (List.mem_of_mem_drop hp)
  unfold pcs; split
  · rename_i e
    have := (List.append_eq_nil_iff.mp e).2
    rw [this]; rfl
  · unfold wayL
    rw [List.filter_append, filter_dd, filter_ab hd, List.nil_append]
theorem count_ab {ns : List (List Nat)} (h : ∀ p ∈ ns, Ab p) : ns.count [46, 46] = 0 := by
  rw [List.count_eq_zero]
  intro hm
  exact (ab_nm (h _ hm)).2.2 rfl
theorem pcs_count {row there : List (List Nat)} (h : ∀ p ∈ row, Ab p) : (pcs row there).count [46, 46] = there.length - alk there row := by
  have hd : ∀ p ∈ row.drop (alk there row), Ab p := fun p hp => h p (List.mem_of_mem_drop hp)
  unfold pcs; split
  · rename_i e
    have := (List.append_eq_nil_iff.mp e).1
    have := congrArg List.length this
    rw [List.length_replicate, List.length_nil] at this
    rw [this]; rfl
  · unfold wayL
    rw [List.count_append, count_ab hd, List.count_replicate_self]; rfl
/-! sizes -/
theorem wt_small : ∀ {ns : List (List Nat)}, (∀ p ∈ ns, p.length ≤ 2) → wt ns ≤ 3 * ns.length
  | [], _ => Nat.le_refl _
  | p :: r, h => by
    have h1 := h p (by simp)
    have ih := wt_small (ns := r) fun q hq => h q (List.mem_cons_of_mem _ hq)
    rw [wt_cons, List.length_cons]; omega
theorem jn_small {c : Nat} {ns : List (List Nat)} (h : ∀ p ∈ ns, p.length ≤ 2) : (jn c ns).length ≤ 3 * ns.length := Nat.le_trans jn_le_wt (wt_small h)
theorem back_row (row there : List (List Nat)) : there.take (alk there row) ++ row.drop (alk there row) = row := by
  rw [take_alk, List.take_append_drop]
def HoldN : Prop := True
local macro_rules | `(tactic| walk_at "call ref") => `(tactic| (k_here; (with_reducible show wpAny _ _ (call (Value.ref 185) _ _) _ _ _); refine' place_ok ?sX ?sT ?sd ?su ?hh ?jD ?jv ?jz ?jl ?_; walk_at "my:site"; (case hh => first | rfl | assumption); (case jD => walk_at "my:get"); (case jv => assumption); (case jz => assumption); (case jl => first | assumption | omega); intro _ _ _ _; walk_at "my:carry"))
local macro_rules | `(tactic| walk_at "compareOp NotEq ref ref") => `(tactic| (k_here; (with_reducible rename HoldN => hmark); refine held ?_))
local macro_rules | `(tactic| walk_at "binaryOp Mult str int") => `(tactic| (k_here; (refine' my_smul ?y ?a ?b ?_; (case y => exact lit_dot); (case a => omega); (case b => omega)); intro _ _))
local macro_rules | `(tactic| walk_at "call builtin:list.count") => `(tactic| (k_here; k_dflt (refine' my_count ?g ?v ?y ?_; (case g => walk_at "my:get"); (case v => assumption); (case y => exact lit_dd)); intro _ _))
local macro_rules | `(tactic| walk_at "compareOp NotIn str ref") => `(tactic| (k_here; k_dflt (refine' my_notin ?t ?_; (case t => exact News.isTup (by k_asm) (by k_mem)))))
local macro_rules | `(tactic| walk_at "getMethod ref") => `(tactic| (k_here; (with_reducible show wpAny _ _ (getMethod (Value.ref _) (PySem.Str.ofString "count") _) _ _ _); k_dflt (refine' kl_method ?N ?m PySem.F.slot_list_count PySem.F.type_list_count ?_; (case N => k_asm); (case m => k_mem))))

theorem wayTxs3 {row there : List (List Nat)} {vs us : List Value} {k : Nat} {t : Tok} {y : Str} (hy : y = tx [46, 46]) (hT : Txs us row) (hl : vs.length = there.length) (hk : k = alk there row) :
    Txs (List.replicate ((vs.length : Int) - (k : Int)).toNat (Value.str y t) ++ List.drop ((k : Int)).toNat us.toArray.toList) (wayL row there) := by
  subst hy hk
  have e1 : ((vs.length : Int) - ((alk there row : Nat) : Int)).toNat = there.length - alk there row := by omega
  have e2 : (((alk there row : Nat) : Int)).toNat = alk there row := by omega
  rw [e1, e2]
  exact (Txs.rep _).app (hT.drop _)
theorem told_ucs2 {rs : List Nat} {ns : List (List Nat)} (h : ∀ p ∈ ns, Ab p) : ∀ p ∈ told rs ns, Ucs p.2 := by
  intro p hp
  rcases List.mem_append.mp hp with hp | hp
  · exact (told_ucs h p hp).2
  · rw [List.mem_singleton.mp hp]; rfl
theorem told_len {rs : List Nat} {ns : List (List Nat)} (h1 : rs.length ≤ 2) (h2 : ∀ c ∈ rs, c ≤ 100) (h3 : ns.length ≤ 100) : (rs.flatMap toldR ++ toldN ns).length ≤ 1000 := by
  have e1 := flat_len h2
  have e2 := toldN_length ns
  rw [List.length_append]; omega
theorem out_small {row ns : List (List Nat)} {u : Int} {k : Nat} (hu : u.toNat = k) (h1 : ∀ p ∈ row, p.length ≤ 2) (h2 : ∀ p ∈ ns, p.length ≤ 2) (hl : row.length + k + ns.length ≤ 200) : (tx (47 :: jn 47 (outPath row (u, ns)))).length ≤ 1000 := by
  have hm : ∀ p ∈ outPath row (u, ns), p.length ≤ 2 := by
    intro p hp
    rcases List.mem_append.mp hp with hp | hp
    · exact h1 p hp
    · rcases List.mem_append.mp hp with hp | hp
      · rw [List.eq_of_mem_replicate hp]; decide
      · exact h2 p hp
  have := jn_small (c := 47) hm
  have e : (outPath row (u, ns)).length = row.length + (k + ns.length) := by
    unfold outPath
    simp only [List.length_append, List.length_replicate, hu]
  rw [tx_len, List.length_cons]; omega
theorem nums1 {z : Int} {x : Nat} {t : Tok} (e : z = (x : Int)) : Nums [.int z t] [x] := by subst e; exact .cons .nil
theorem cnt_up {c a b : Nat} (h : c = a - b) : (1 + (c : Int)).toNat = 1 + (a - b) := by subst h; omega
theorem ups_of (n : Nat) : ((-1 : Int) + ((1 + n + 0 : Nat) : Int)).toNat = n := by omega
theorem num_up {v t a b : Nat} (h1 : v = t) (h2 : b = a) (h3 : a ≤ t) : (1 : Int) + ((v : Int) - (a : Int)) = ((1 + (t - b) : Nat) : Int) := by subst h1; subst h2; omega
theorem way_le {v u a : Nat} (h1 : v ≤ 30) (h2 : u ≤ 30) : ((v : Int) - (a : Int)).toNat + (u - ((a : Int)).toNat) ≤ 100000 := by omega
theorem back_ok {w : World} {A : Around} {E : Value → Shared → Prop} {s : Shared} {V : Program} {Lo : List Str} {mg mb : Str → Option Value} {Q : Value → Shared → Prop} {row there : List (List Nat)} {us vs : List Value} {D D2 : Addr} {n n2 : Nat}
  (X : (hd.heap_1 w.params).In s.heap) (T : TR V Lo mg mb s.heap) (hdp : A.depth + 60 < recursionLimit) (hu : A.units + 500 < cLine) (hh : A.handled = none)
  (hD : s.heap.get? D = some (listOf us.toArray n)) (hus : Txs us row) (hD2 : s.heap.get? D2 = some (listOf vs.toArray n2)) (hvs : Txs vs there)
  (hrow : ∀ p ∈ row, Ab p) (hthere : ∀ p ∈ there, Ab p) (hl : row.length ≤ 30) (hl2 : there.length ≤ 30) (hp : ∀ p ∈ row, p.length ≤ 2) (hp2 : ∀ p ∈ there, p.length ≤ 2)
  (h : ∀ h' t', s.heap.StaysIn h' → Q (.bool true) { s with heap := h', toks := t' }) :
  wpAny (model Pg w) A (call (.ref 204) [.ref D, .ref D2]) Q E s := by
  obtain ⟨hd0, d0, fr0, gu0, un0⟩ := A
  dsimp only at hh hdp hu
  subst hh
  w_on
  have hul := hus.length
  have hvl := hvs.length
  have hrn : ∀ p ∈ row, Nm p := fun p hp => ab_nm (hrow p hp)
  have htn : ∀ p ∈ there, Nm p := fun p hp => ab_nm (hthere p hp)
  have hz1 : (tx (47 :: jn 47 row)).length ≤ 1000 := by
    have := jn_small (c := 47) hp
    rw [tx_len, List.length_cons]; omega
  have hz2 : (tx (47 :: jn 47 there)).length ≤ 1000 := by
    have := jn_small (c := 47) hp2
    rw [tx_len, List.length_cons]; omega
  have hl10 : row.length ≤ 1000 := by omega
  have hl20 : there.length ≤ 1000 := by omega
  have hk1 := alk_le row there
  have hk2 := alk_le there row
  rw [alk_comm] at hk2
  have hkc := alk_comm there row
  have hwl : (wayL row there).length ≤ 100 := by
    unfold wayL; rw [List.length_append, List.length_replicate, List.length_drop]; omega
  have hwp : ∀ p ∈ wayL row there, p.length ≤ 2 := fun p h => by
    rcases way_mem h with rfl | h
    · decide
    · exact hp p h
  have hz3 : (jn 47 (wayL row there)).length ≤ 1000 := by
    have := jn_small (c := 47) hwp
    omega
  have hzw : (tx (jn 47 (wayL row there))).length ≤ 1000 := hz3
  have hpl : (pcs row there).length ≤ 100 := by
    unfold pcs; split
    · decide
    · exact hwl
  have hzp : (tx (jn 47 (pcs row there))).length ≤ 1000 := by
    rw [← pcs_jn, tx_len]; unfold wayT; split
    · decide
    · exact hz3
  have hpn := pcs_ne row there
  have hct := pcs_count (there := there) hrow
  have hctl : (pcs row there).count [46, 46] ≤ 100 := by omega
  have e1 : (1 + (((pcs row there).count [46, 46] : Nat) : Int)).toNat = 1 + (there.length - alk there row) := cnt_up hct
  have hut : 1 + (there.length - alk there row) ≤ 100 := by omega
  have hut2 : there.length + (there.length - alk there row) + (row.drop (alk there row)).length ≤ 200 := by rw [List.length_drop]; omega
  have hwy : ((vs.length : Int) - ((alk row there : Nat) : Int)).toNat + (us.length - (((alk row there : Nat) : Int)).toNat) ≤ 100000 := way_le (by omega) (by omega)
  have hzr : (tx (List.replicate (1 + (((pcs row there).count [46, 46] : Nat) : Int)).toNat 46)).length ≤ 200 := by
    rw [tx_len, List.length_replicate]; omega
  have hda : ∀ p ∈ row.drop (alk there row), Ab p := fun p hp => hrow p (List.mem_of_mem_drop hp)
  have hdl : (row.drop (alk there row)).length ≤ 30 := by rw [List.length_drop]; omega
  have hzd : (tx (jn 46 (row.drop (alk there row)))).length ≤ 200 := by
    have := jn_small (c := 46) (ns := row.drop (alk there row)) fun p h => hp p (List.mem_of_mem_drop h)
    rw [tx_len]; omega
  have hpf : ∀ p ∈ pcs row there, 47 ∉ p := fun p h => by
    rcases pcs_mem h with rfl | rfl | h
    · decide
    · decide
    · exact (hrn p h).1.2
  refine' enter (K := hd.heap_1 w.params) (args := ⟨[.ref D, .ref D2], []⟩) (binds := [(Str.ofString "row", .ref D), (Str.ofString "there", .ref D2)]) X T ?k1 ?k2 ?k3 ?k4 ?k5 ?_ ?k6 ?k7 ?k8 ?k9
  walk_at "my:cases"
  intro L' h₁ F N
  dsimp only [List.reverse, List.reverseAux] at F
  k_fold
  have hmk : HoldE := True.intro
  have hmn : HoldN := True.intro
  k_steps
  unfold Held
  refine' alike_ok ?sX ?sT ?sd ?su ?qhh12 ?qjD12 ?qjv12 ?qjE12 ?qjw12 ?qjl12 ?qjk12 ?_
  walk_at "my:site"
  case qhh12 => first | rfl | assumption
  case qjD12 => walk_at "my:get"
  case qjE12 => walk_at "my:get"
  case qjv12 => assumption
  case qjw12 => assumption
  case qjl12 => first | assumption | omega
  case qjk12 => first | assumption | omega
  intro _ _ _ _
  walk_at "my:carry"
  k_steps
  unfold Held
  refine' relpath_ok ?sX ?sT ?sd ?su ?qhh13 ?qjr13 ?qjt13 ?qj113 ?qj213 ?qj313 ?_
  walk_at "my:site"
  case qhh13 => first | rfl | assumption
  case qjr13 => assumption
  case qjt13 => assumption
  case qj113 => assumption
  case qj213 => assumption
  case qj313 => assumption
  intro _ _ _ _
  walk_at "my:carry"
  k_steps
  (with_reducible rename Fr _ _ _ _ => kF)
  rw [pcs_jn row there] at kF ⊢
  refine' strjoin_ok ?jh lit_slash (wayTxs3 lit_dd hus hvl hkc.symm) ?jz ?jl ?_
  case jh => walk_at "my:get"
  case jz => omega
  case jl => omega
  intro _ _
  have hcase : ((jn 47 (wayL row there)).isEmpty = true ∧ (jn 47 (pcs row there) != [46]) = false) ∨ ((jn 47 (wayL row there)).isEmpty = false ∧ (jn 47 (pcs row there) != jn 47 (wayL row there)) = false) := by
    by_cases hw : wayL row there = []
    · refine .inl ⟨by rw [hw]; rfl, ?_⟩
      rw [pcs, if_pos hw]; rfl
    · refine .inr ⟨?_, ?_⟩
      · rw [List.isEmpty_eq_false_iff]
        intro e
        exact hw ((jn_nil_iff fun p h => by
          rcases way_mem h with rfl | h
          · decide
          · exact (hrn p h).1.1).mp e)
      · rw [pcs, if_neg hw]; simp
  rcases hcase with ⟨he, hne⟩ | ⟨he, hne⟩
  all_goals
    k_steps
    unfold Held
    refine LCt.CompSrcT.ledger (by rfl) (by k_asm) (by k_asm) (by k_mem) (by rw [List.size_toArray, sizeLine_eq]; omega) ?_
    intro g'
    dsimp only
    refine rest_filter isNm (by assumption) ?jS2 ?jt2 ?jk2 ?_
    case jS2 => exact .inr ⟨_, by k_mem, rfl, _, rfl⟩
    case jt2 =>
      intro q tq I oI C oC D ys m₂ h tk E' hq hC hx F N
      k_steps
      (with_reducible rename News _ _ _ _ => kN)
      exact ⟨rfl, _, _, rfl, by assumption, fun p hp => kN p (.tail _ hp)⟩
    case jk2 =>
      intro q tq I oI C oC D ys m₂ h tk E' hq hC hx F N
      k_steps
      exact ⟨⟨_, rfl⟩, _, _, rfl, by assumption, by assumption⟩
    intro us2 hus2 hul2
    rw [pcs_filter hrow] at hus2 hul2
    k_steps
    refine' strjoin_ok ?jh2 lit_dot hus2 ?jz2 ?jl2 ?_
    case jh2 => walk_at "my:get"
    case jz2 => omega
    case jl2 => omega
    intro _ _
    k_steps
    unfold Held
    rw [tx_app, e1]
    refine' read_ok (ts := [1 + (there.length - alk there row)].flatMap toldR ++ toldN (row.drop (alk there row))) ?sX ?sT ?sd ?su ?hh ?jx ?jz3 ?jr ?_
    walk_at "my:site"
    case hh => rfl
    case jx => exact all_app (rep_alpha _) (jn_alpha hda)
    case jz3 =>
      rw [tx_len] at hzd ⊢
      rw [List.length_append, List.length_replicate]; omega
    case jr => exact rd_one hda _
    intro h' t' R Z ys k kS hZ htk
    (with_reducible rename Fr _ _ _ _ => kF)
    (with_reducible rename News _ _ _ _ => kN)
    have F' := frGo kF kS
    have N' := newsAdd kF (newsGo kN kS) hZ
    clear kF kN kS hZ
    try simp only [List.cons_append, List.nil_append, List.append_assoc] at N'
    (with_reducible rename Tk (inL _) _ _ => ht1)
    k_steps
    unfold Held
    refine' told_ok (rs := [1 + (there.length - alk there row)]) (ns := row.drop (alk there row)) ?sX ?sT ?sd ?su ?hh ?jD3 ?jn3 ?jE3 ?jv3 ?jl3 ?jb3 ?jm3 ?_
    walk_at "my:site"
    case hh => rfl
    case jD3 => walk_at "my:get"
    case jn3 => exact nums1 (num_up hvl hkc hk2)
    case jE3 => walk_at "my:get"
    case jv3 =>
      show Txs (List.drop (alk row there) us) _
      rw [hkc]; exact hus.drop _
    case jl3 => exact Nat.le_of_ble_eq_true rfl
    case jb3 => intro c hc; rw [List.mem_singleton.mp hc]; exact hut
    case jm3 => omega
    intro h' t' R Z ys k kS hZ htk
    (with_reducible rename Fr _ _ _ _ => kF)
    (with_reducible rename News _ _ _ _ => kN)
    have F' := frGo kF kS
    have N' := newsAdd kF (newsGo kN kS) hZ
    clear kF kN kS hZ
    try simp only [List.cons_append, List.nil_append, List.append_assoc] at N'
    (with_reducible rename Tk (inL _) _ (told _ _) => ht2)
    k_steps
    unfold Held
    refine' my_ne_toks (ts := told [1 + (there.length - alk there row)] (row.drop (alk there row))) ?jg4 ?jG4 ?jt4 ?jT4 ?jk4 ?ju4 ?_
    case jg4 => walk_at "my:get"
    case jG4 => walk_at "my:get"
    case jt4 => exact Tk.inNews ht1 (by k_asm) (by intro p hp; simp only [List.mem_cons, List.mem_append, hp, true_or, or_true])
    case jT4 => exact Tk.inNews ht2 (by k_asm) (by intro p hp; simp only [List.mem_cons, List.mem_append, hp, true_or, or_true])
    case jk4 => exact told_ucs2 hda
    case ju4 => k_units
    k_steps
    unfold Held
    refine' reached_ok (ts := [1 + (there.length - alk there row)].flatMap toldR ++ toldN (row.drop (alk there row))) (ds := row) ?sX ?sT ?sd ?su ?hh ?jR5 ?jt5 ?jp5 ?jl5 ?jr5 ?jn5 ?jz5 ?jq5 ?_
    walk_at "my:site"
    case hh => rfl
    case jR5 => walk_at "my:get"
    case jt5 => exact Tk.inNews ht1 (by k_asm) (by intro p hp; simp only [List.mem_cons, List.mem_append, hp, true_or, or_true])
    case jp5 => exact told_ucs hda
    case jl5 => exact told_len (Nat.le_of_ble_eq_true rfl) (by intro c hc; rw [List.mem_singleton.mp hc]; exact hut) (by omega)
    case jr5 => exact fun p hp => ⟨(htn p hp).1, (htn p hp).2.1⟩
    case jn5 => rw [goUp_told]; exact fun p hp => ⟨(ab_nm (hda p hp)).1, (ab_nm (hda p hp)).2.1⟩
    case jz5 =>
      rw [goUp_told]
      exact out_small (k := there.length - alk there row) (by simp only [List.sum_cons, List.sum_nil, ups_of]) hp2 (fun p h => hp p (List.mem_of_mem_drop h)) (by first | exact hut2 | omega)
    case jq5 =>
      rw [goUp_told]
      have e2 : ((-1 : Int) + (([1 + (there.length - alk there row)].sum : Nat) : Int)).toNat = there.length - alk there row := by simp only [List.sum_cons, List.sum_nil, ups_of]
      unfold outPath
      rw [e2, nrm_out htn fun p hp => ab_nm (hda p hp)]
      have e3 : there.length - (there.length - alk there row) = alk there row := by rw [hkc]; exact Nat.sub_sub_self hk2
      rw [e3, back_row]
    intro _ _ _ _
    walk_at "my:carry"
    k_steps
    rw [beq_self_eq_true]
    exact h _ _ (Fr.keep (by assumption))

open LCg in
/-- a comprehension over a short tuple, that makes texts -/
theorem rest_genU {prog : Program} {w : World} {A : Around} {s : Shared} {h₀ : Heap} {L : Addr} {m : Str → Option Value} {env : Env} {elt : Expr} {x : Str} {scope : Scope} {cl : List (Str × Addr)} {S : List (Addr × Obj) → Prop} {vs : List Value} {news : List (Addr × Obj)}
    {Fin : List Value → List (Addr × Obj) → Prop} (out : Nat → List Nat) (hS : S news)
    (take : ∀ i v I oI C oC D ys m₂ h tk (E' : Value → Shared → Prop), vs[i]? = some v → NsObj oC m₂ → m₂ x = some v → Fr h₀ L h m → News h₀ L h ((I, oI) :: (C, oC) :: (D, lst ys) :: news) →
      wpAny (model prog w) A (eval elt (compEnvC scope cl C env)) (TxPost s h₀ L m ((I, oI) :: (C, oC) :: (D, lst ys) :: news) (out i)) E' { s with heap := h, toks := tk })
    (fin : ∀ us, Txs us ((List.range vs.length).map out) → Fin us news) :
    CompRest prog w A h₀ L m env elt x scope cl s S (fun i v => vs.toArray[i]? = some v) Fin vs.toArray.size 0 [] news := by
  have main : ∀ k i ys, i + k = vs.length → Txs ys ((List.range i).map out) → CompRest prog w A h₀ L m env elt x scope cl s S (fun i v => vs.toArray[i]? = some v) Fin k i ys news := by
    intro k
    induction k with
    | zero =>
      intro i ys hi hy
      have e : i = vs.length := by omega
      subst e
      exact CompRest.zero (fin ys hy)
    | succ k ih =>
      intro i ys hi hy
      refine CompRest.succ ?_
      intro v I oI C oC D m₂ h tk E' hPv hC hx F N off ne
      have hPv' : vs[i]? = some v := by simpa using hPv
      refine wpAny_mono (take i v I oI C oC D ys m₂ h tk E' hPv' hC hx F N) (fun y s'' hy' => ?_) fun _ _ e => e
      obtain ⟨⟨t, rfl⟩, h'', tk'', rfl, F'', N''⟩ := hy'
      refine CompEnd.intro F'' N'' news (fun p hp => hp) off hS (ih (i + 1) _ (by omega) ?_)
      rw [List.range_succ, List.map_append]
      exact hy.snoc (out i) t
  have := main vs.length 0 [] (by omega) (by simpa using Txs.nil)
  simpa using this
def nmOf (d : Nat) : List Nat := if d = 0 then [97] else if d = 1 then [98] else [97, 98]
theorem nmOf_ab (d : Nat) : Ab (nmOf d) ∧ (nmOf d).length ≤ 2 := by
  unfold nmOf
  split
  · exact ⟨⟨by simp, by simp⟩, by simp⟩
  · split
    · exact ⟨⟨by simp, by simp⟩, by simp⟩
    · exact ⟨⟨by simp, by simp⟩, by simp⟩
def szs : List Nat := [96, 288, 864]
def nms (y : Nat) : List (List Nat) := (List.range (y / 24 % 4)).map fun i => nmOf (y / (szs[i]?.getD 1) % 3)
theorem nms_ab (y : Nat) : ∀ p ∈ nms y, Ab p ∧ p.length ≤ 2 := by
  intro p hp
  obtain ⟨i, _, rfl⟩ := List.mem_map.mp hp
  exact nmOf_ab _
theorem nms_len (y : Nat) : (nms y).length ≤ 3 := by
  unfold nms; rw [List.length_map, List.length_range]; omega
theorem mf6 {m m₀ : Str → Option Value} {x a b c d e : Str} {v : Option Value} (hx : m x = v) (hk : Keeps [x, a, b, c, d, e] m m₀) :
    ∃ u1 u2 u3 u4 u5, m = fun z => if z = x then v else if z = a then u1 else if z = b then u2 else if z = c then u3 else if z = d then u4 else if z = e then u5 else m₀ z :=
  ⟨m a, m b, m c, m d, m e, funext fun z => by
    by_cases h0 : z = x
    · rw [if_pos h0, h0, hx]
    rw [if_neg h0]
    by_cases h1 : z = a
    · rw [if_pos h1, h1]
    rw [if_neg h1]
    by_cases h2 : z = b
    · rw [if_pos h2, h2]
    rw [if_neg h2]
    by_cases h3 : z = c
    · rw [if_pos h3, h3]
    rw [if_neg h3]
    by_cases h4 : z = d
    · rw [if_pos h4, h4]
    rw [if_neg h4]
    by_cases h5 : z = e
    · rw [if_pos h5, h5]
    rw [if_neg h5]
    exact hk z (by simp [h0, h1, h2, h3, h4, h5])⟩
theorem keeps6 {m m₀ : Str → Option Value} {x a b c d e : Str} (h : ∀ z, z ≠ x → z ≠ a → z ≠ b → z ≠ c → z ≠ d → z ≠ e → m z = m₀ z) : Keeps [x, a, b, c, d, e] m m₀ := fun z hz =>
  h z (fun q => hz (by rw [q]; simp)) (fun q => hz (by rw [q]; simp)) (fun q => hz (by rw [q]; simp)) (fun q => hz (by rw [q]; simp)) (fun q => hz (by rw [q]; simp)) (fun q => hz (by rw [q]; simp))
section
variable {prog : Program} {w : World} {A : Around} {E : Value → Shared → Prop} {s : Shared}
theorem adjust_to (b n : Nat) : Builtin.Slice.sliceAdjust none (some (b : Int)) 1 (n : Int) = (0, ((min b n : Nat) : Int)) := by
  unfold Builtin.Slice.sliceAdjust
  have h1 : ¬ ((1 : Int) < 0) := by omega
  have h2 : ¬ ((b : Int) < 0) := by omega
  simp only [h1, h2, if_false]
  congr 1
  omega
theorem places_to (b : Nat) : Builtin.Slice.slicePlaces 0 (b : Int) 1 = b := by
  unfold Builtin.Slice.slicePlaces
  have h1 : (1 : Int) > 0 := by omega
  simp only [h1, if_true, Int.ediv_one]
  split <;> omega
theorem sliceApplied_to {sl : Addr} {b n : Nat} {u : Tok} {Q : Int × Int × Nat → Shared → Prop} (hs : s.heap.IsSliceOf sl .none (.int b u) .none) (h : Q (0, 1, min b n) s) :
    wpAny (model prog w) A (Builtin.Slice.sliceApplied (.ref sl) (pure (n : Int))) Q E s := by
  obtain ⟨os, hos, hcs, hds⟩ := id hs
  unfold Builtin.Slice.sliceApplied Builtin.Slice.sliceFields
  refine wpAny_bind (wpAny_bind (wpAny_field hos hds (x := .none) rfl (wpAny_bind (wpAny_field hos hds (x := .int b u) rfl (wpAny_bind (wpAny_field hos hds (x := .none) rfl (wpAny_pure ?_)))))))
  refine wpAny_bind (slicePart_none ?_)
  show wpAny _ _ (if ((1 : Int) == 0) = true then _ else _) _ _ s
  rw [if_neg (by decide)]
  refine wpAny_bind (slicePart_none (wpAny_bind (slicePart_int (wpAny_bind (wpAny_pure ?_)))))
  show wpAny _ _ (match Builtin.Slice.sliceAdjust none (some (b : Int)) 1 (n : Int) with | (lo, hi) => pure (lo, (1 : Int), Builtin.Slice.slicePlaces lo hi 1)) _ _ s
  rw [adjust_to b n]
  show wpAny _ _ (pure ((0 : Int), (1 : Int), Builtin.Slice.slicePlaces 0 ((min b n : Nat) : Int) 1)) _ _ s
  rw [places_to]
  exact wpAny_pure h
theorem pick_to (xs : Array Value) (b : Nat) (hb : b ≤ xs.size) : ((List.range b).filterMap fun (k : Nat) => xs[((0 : Int) + (k : Int) * 1).toNat]?).toArray = (xs.toList.take b).toArray := by
  congr 1
  have e : (fun (k : Nat) => xs[((0 : Int) + (k : Int) * 1).toNat]?) = fun k => xs.toList[k]? := by
    funext k
    have : ((0 : Int) + (k : Int) * 1).toNat = k := by omega
    rw [this]; simp
  rw [e]
  induction b with
  | zero => simp
  | succ b ih =>
    rw [List.range_succ, List.filterMap_append, ih (by omega), List.take_add_one]
    congr 1
theorem getItem_tuple_to {t sl : Addr} {items : Array Value} {b : Nat} {u : Tok} {Q : Value → Shared → Prop} (ht : IsTup s.heap t items) (hs : s.heap.IsSliceOf sl .none (.int b u) .none)
    (h0 : items.size ≤ b → Q (.ref t) s) (h1 : b < items.size → Q (.ref s.heap.objs.size) { s with heap := s.heap.push { cls := .type "tuple", data := .seq (items.toList.take b).toArray } })
    (hsz : items.size ≤ sizeLine) : wpAny (model prog w) A (getItem (.ref t) (.ref sl)) Q E s := by
  have htake : sizeOk (.seq (items.toList.take b).toArray) := by
    show (items.toList.take b).toArray.size ≤ sizeLine
    rw [List.size_toArray, List.length_take, Array.length_toList]
    omega
  obtain ⟨os, hos, hcs, hds⟩ := id hs
  have hTs : s.TypeIs (.ref sl) "slice" := ⟨os, hos, hcs⟩
  unfold getItem
  try with_reducible refine wpAny_holding ?_
  first | refine wpAny_bind (wpAny_pure ?_) | skip
  refine wpAny_bind (wpAny_sequenceKey ht.typeIs (by decide) ?_)
  refine wpAny_bind (wpAny_callSpecial?_slot (name := Str.ofString "__getitem__") ht.typeIs slot_tuple_getitem
    (wpAny_call_entry slot_tuple_getitem ht.typeIs entry_tuple_getitem ?_ (args_tuple_getitem _ _)))
  show wpAny _ _ (Builtin.Tuple.tupleItemsOf (.ref t) >>= _) _ _ s
  refine wpAny_bind (tupleItemsOf_ ht ?_)
  refine wpAny_bind (wpAny_typeOf hTs ?_)
  rw [if_pos (by decide)]
  refine wpAny_bind (sliceApplied_to hs ?_)
  by_cases hb : b < items.size
  · have hm : min b items.size = b := by omega
    have hno : ¬ (((0 : Int) == 0 && (1 : Int) == 1 && (min b items.size) == items.size) = true) := by
      have : (min b items.size == items.size) = false := by rw [beq_eq_false_iff_ne]; omega
      rw [this]; simp
    show wpAny _ _ (if ((0 : Int) == 0 && (1 : Int) == 1 && (min b items.size) == items.size) = true then _ else _) _ _ s
    rw [if_neg hno, hm, pick_to items b (by omega)]
    have h := h1 hb
    first
      | exact wpAny_bind (m := Builtin.Tuple.tupleExact _) (wpAny_newObj_type (wpAny_pure ⟨_, rfl, wpAny_pure h⟩) htake)
      | exact wpAny_bind (m := Builtin.Tuple.tupleExact _) (wpAny_newObj_type (wpAny_bind (wpAny_pure (wpAny_pure ⟨_, rfl, wpAny_pure h⟩))) htake)
      | exact wpAny_bind (wpAny_bind (m := Builtin.Tuple.tupleExact _) (wpAny_newObj_type (wpAny_pure (wpAny_pure ⟨_, rfl, wpAny_pure h⟩)) htake))
      | exact wpAny_bind (wpAny_bind (m := Builtin.Tuple.tupleExact _) (wpAny_newObj_type (wpAny_pure ⟨_, rfl, wpAny_pure h⟩) htake))
  · have hyes : ((0 : Int) == 0 && (1 : Int) == 1 && (min b items.size) == items.size) = true := by
      have : (min b items.size == items.size) = true := by rw [beq_iff_eq]; omega
      rw [this]; rfl
    show wpAny _ _ (if ((0 : Int) == 0 && (1 : Int) == 1 && (min b items.size) == items.size) = true then _ else _) _ _ s
    rw [if_pos hyes]
    have h := h0 (by omega)
    refine wpAny_bind (wpAny_bind (wpAny_typeOf ht.typeIs (wpAny_pure ?_)))
    rw [if_pos (by decide)]
    first
      | exact wpAny_bind (wpAny_pure (wpAny_pure ⟨_, rfl, wpAny_pure h⟩))
      | exact wpAny_bind (wpAny_rule (wpAny_pure ⟨_, rfl, wpAny_pure h⟩))
      | exact wpAny_pure ⟨_, rfl, wpAny_pure h⟩
end
section
variable {prog : Program} {w : World} {A : Around} {E : Value → Shared → Prop} {s : Shared} {h₀ : Heap} {L : Addr} {m : Str → Option Value} {news : List (Addr × Obj)}
theorem slice_tup {value slice : Expr} {t : Addr} {ot : Obj} {items : List Value} {b n : Nat} {u : Tok} {Q : Value → Shared → Prop}
    (F : Fr h₀ L s.heap m) (N : News h₀ L s.heap news) (hm : (t, ot) ∈ news) (hc : ot.cls = .type "tuple") (hd : ot.data = .seq items.toArray n) (hsz : items.length ≤ 1000)
    (h : ∀ T o h', Fr h₀ L h' m → News h₀ L h' ((T, o) :: news) → o.cls = .type "tuple" → (∃ n, o.data = .seq (items.take b).toArray n) → Q (.ref T) { s with heap := h' })
    (hs : subscripted slice false (.ref t) (.ref s.heap.objs.size) = operate [.ref s.heap.objs.size, .ref t] (getItem (.ref t) (.ref s.heap.objs.size)) := by with_unfolding_all rfl) :
    wpAny (model prog w) A (subscriptTail value slice (.ref t) (.ref s.heap.objs.size)) Q E { s with heap := s.heap.push { cls := .type "slice", data := .fields #[.none, .int b u, .none] } } := by
  have ht : IsTup s.heap t items.toArray := ⟨ot, (N _ hm).1, hc, n, hd⟩
  have ht' : IsTup (s.heap.push { cls := .type "slice", data := .fields #[.none, .int b u, .none] }) t items.toArray := ht.keeps fun _ _ e => Heap.get?_push_of_some _ e
  have N0 : News h₀ L (s.heap.push { cls := .type "slice", data := .fields #[.none, .int b u, .none] }) news := N.grown fun _ _ e => Heap.get?_push_of_some _ e
  refine tail_any (s := { s with heap := s.heap.push { cls := .type "slice", data := .fields #[.none, .int b u, .none] } }) ht'.typeIs slot_tuple_getitem.lookup
    (getItem_tuple_to ht' (Heap.IsSliceOf.new ..) (fun hb => ?_) (fun hb => ?_) (by rw [List.size_toArray, sizeLine_eq]; omega)) hs
  · rw [List.size_toArray] at hb
    refine h t ot _ (F.push _) (fun p hp => ?_) hc ⟨n, by rw [List.take_of_length_le hb]; exact hd⟩
    rcases List.mem_cons.mp hp with rfl | hp
    · exact N0 _ hm
    · exact N0 p hp
  · have N1 := News.push (F.push { cls := .type "slice", data := .fields #[.none, .int b u, .none] }) N0 { cls := .type "tuple", data := .seq (items.take b).toArray }
    exact h _ _ _ ((F.push _).push _) N1 rfl ⟨_, rfl⟩
end
section
variable {prog : Program} {w : World} {A : Around} {E : Value → Shared → Prop} {s : Shared} {h₀ : Heap} {L : Addr} {m : Str → Option Value} {news : List (Addr × Obj)}
theorem slice_tupZ {value slice : Expr} {t : Addr} {ot : Obj} {items : List Value} {y n : Nat} {u : Tok} {Q : Value → Shared → Prop}
    (F : Fr h₀ L s.heap m) (N : News h₀ L s.heap news) (hm : (t, ot) ∈ news) (hc : ot.cls = .type "tuple") (hd : ot.data = .seq items.toArray n) (hsz : items.length ≤ 1000)
    (h : ∀ T o h', Fr h₀ L h' m → News h₀ L h' ((T, o) :: news) → o.cls = .type "tuple" → (∃ n, o.data = .seq (items.take (y / 24 % 4)).toArray n) → Q (.ref T) { s with heap := h' })
    (hs : subscripted slice false (.ref t) (.ref s.heap.objs.size) = operate [.ref s.heap.objs.size, .ref t] (getItem (.ref t) (.ref s.heap.objs.size)) := by with_unfolding_all rfl) :
    wpAny (model prog w) A (subscriptTail value slice (.ref t) (.ref s.heap.objs.size)) Q E { s with heap := s.heap.push { cls := .type "slice", data := .fields #[.none, .int (Int.fmod (Int.fdiv (y : Int) 24) 4) u, .none] } } := by
  have e1 : Int.fdiv (y : Int) 24 = ((y / 24 : Nat) : Int) := fdiv_nat y 24
  have e2 : Int.fmod ((y / 24 : Nat) : Int) 4 = ((y / 24 % 4 : Nat) : Int) := fmod_nat (y / 24) 4
  rw [e1, e2]
  exact slice_tup F N hm hc hd hsz h hs
end
theorem mod3 (n : Nat) : n % 3 = 0 ∨ n % 3 = 1 ∨ n % 3 = 2 := by omega
theorem ups2 {b d : Nat} (h : b ≤ d) : ((-1 : Int) + ((b + (d - b + 0) : Nat) : Int)).toNat = d - 1 := by
  have e : b + (d - b + 0) = d := by omega
  rw [e]; omega
theorem mx_eq {v r d : Nat} (h : v = r) (hd : 1 ≤ d) : (if ((v : Nat) : Int) - ((d : Nat) : Int) + 1 > 0 then ((v : Nat) : Int) - ((d : Nat) : Int) + 1 else 0) = ((r - (d - 1) : Nat) : Int) := by
  subst h; split <;> omega
theorem sub_cast {b d : Nat} (h : b ≤ d) : ((d : Nat) : Int) - ((b : Nat) : Int) = ((d - b : Nat) : Int) := by omega
theorem le_200 {a b c : Nat} (h1 : a ≤ 26) (h2 : b ≤ 6) (h3 : c ≤ 3) : a + (b - 1) + c ≤ 200 := by omega
theorem le_more {a b c d : Nat} (h : a ≤ b + c) (h2 : b + c ≤ d) : a ≤ d := Nat.le_trans h h2
theorem digit_eq (y k : Nat) : Int.fmod (Int.fdiv (y : Int) (k : Int)) 3 = ((y / k % 3 : Nat) : Int) := by
  rw [fdiv_nat y k]; exact fmod_nat (y / k) 3
theorem my_titem {prog : Program} {w : World} {A : Around} {E : Value → Shared → Prop} {s : Shared} {value slice : Expr} {t : Addr} {l : List Value} {z : Int} {u : Tok} {j : Nat} {x : Value} {Q : Value → Shared → Prop} (ht : IsTup s.heap t l.toArray)
    (hz : z = (j : Int)) (hb : j < 1000) (hj : seqIndex? (j : Int) l.length = some j) (hx : l[j]? = some x) (h : Q x s)
    (hs : subscripted slice false (.ref t) (.int z u) = operate [.ref t, .int z u] (getItem (.ref t) (.int z u)) := by with_unfolding_all rfl) :
    wpAny (model prog w) A (subscriptTail value slice (.ref t) (.int z u)) Q E s := by
  subst hz
  exact item_tupleT ht (by omega) (by omega) hj hx h hs
theorem nms_eq {y : Nat} {a b c : Value} : (List.range (List.take (y / 24 % 4) [a, b, c]).length).map (fun i => nmOf (y / (szs[i]?.getD 1) % 3)) = nms y := by
  have e : (List.take (y / 24 % 4) [a, b, c]).length = y / 24 % 4 := by
    rw [List.length_take]; simp only [List.length_cons, List.length_nil]; omega
  rw [e]; rfl
theorem take_of {l : List Value} {k i : Nat} {v : Value} (h : (l.take k)[i]? = some v) : l[i]? = some v := by
  rw [List.getElem?_take] at h
  split at h
  · exact h
  · cases h
theorem nm_a {d : Nat} (e : d = 0) : Str.ofString "a" = tx (nmOf d) := by subst e; exact lit_a
theorem nm_b {d : Nat} (e : d = 1) : Str.ofString "b" = tx (nmOf d) := by subst e; exact lit_b
theorem nm_c {d : Nat} (e : d = 2) : Str.ofString "ab" = tx (nmOf d) := by subst e; exact lit_ab
theorem nums2 {z z' : Int} {x x' : Nat} {t t' : Tok} (e : z = (x : Int)) (e' : z' = (x' : Int)) : Nums [.int z t, .int z' t'] [x, x'] := by subst e e'; exact .cons (.cons .nil)
theorem walk_text (b d : Nat) (j : List Nat) (h : b ≤ d) : tx (List.replicate ((b : Nat) : Int).toNat 46) ++ Str.ofString " " ++ tx (List.replicate (((d : Nat) : Int) - ((b : Nat) : Int)).toNat 46) ++ tx j = tx (List.replicate b 46 ++ (32 :: (List.replicate (d - b) 46 ++ j))) := by
  have e1 : ((b : Nat) : Int).toNat = b := by omega
  have e2 : (((d : Nat) : Int) - ((b : Nat) : Int)).toNat = d - b := by omega
  rw [e1, e2, lit_sp, tx_app, tx_app, tx_app]
  congr 1
  simp
def HoldA : Prop := True
def dtOf (y : Nat) : Nat := 1 + y % 6
def blOf (y : Nat) : Nat := min (dtOf y) (y / 6 % 4)
theorem dt_eq (y : Nat) : 1 + Int.fmod (y : Int) 6 = ((dtOf y : Nat) : Int) := by
  have e : Int.fmod (y : Int) 6 = ((y % 6 : Nat) : Int) := fmod_nat y 6
  rw [e]; unfold dtOf; omega
theorem bl_eq (y : Nat) : (if Int.fmod (Int.fdiv (y : Int) 6) 4 < 1 + Int.fmod (y : Int) 6 then Int.fmod (Int.fdiv (y : Int) 6) 4 else 1 + Int.fmod (y : Int) 6) = ((blOf y : Nat) : Int) := by
  have e1 : Int.fdiv (y : Int) 6 = ((y / 6 : Nat) : Int) := fdiv_nat y 6
  have e2 : Int.fmod ((y / 6 : Nat) : Int) 4 = ((y / 6 % 4 : Nat) : Int) := fmod_nat (y / 6) 4
  rw [dt_eq, e1, e2]
  unfold blOf
  split <;> omega
def thOf (row : List (List Nat)) (y : Nat) : List (List Nat) := row.take (row.length - (dtOf y - 1)) ++ nms y
theorem th_mem {row : List (List Nat)} {y : Nat} {p : List Nat} (h : ∀ p ∈ row, Ab p ∧ p.length ≤ 2) (hp : p ∈ thOf row y) : Ab p ∧ p.length ≤ 2 := by
  rcases List.mem_append.mp hp with hp | hp
  · exact h p (List.mem_of_mem_take hp)
  · exact nms_ab y p hp
theorem th_len (row : List (List Nat)) (y : Nat) : (thOf row y).length ≤ row.length + 3 := by
  unfold thOf
  have := nms_len y
  rw [List.length_append, List.length_take]; omega
theorem place_small {row : List (List Nat)} (h : ∀ p ∈ row, Ab p ∧ p.length ≤ 2) (hl : row.length ≤ 100) : (tx (47 :: jn 47 row)).length ≤ 1000 := by
  have := jn_small (c := 47) (ns := row) fun p hp => (h p hp).2
  rw [tx_len, List.length_cons]; omega
theorem place_take {row : List (List Nat)} (h : ∀ p ∈ row, Ab p ∧ p.length ≤ 2) (hl : row.length ≤ 100) (k : Nat) : (tx (47 :: jn 47 (row.take k))).length ≤ 1000 :=
  place_small (fun p hp => h p (List.mem_of_mem_take hp)) (by rw [List.length_take]; omega)
theorem walk_turn {h₀ h : Heap} {L B c : Addr} {oB oc : Obj} {news own : List (Addr × Obj)} (N : News h₀ L h news) (hB : (B, oB) ∈ news) (hc : (c, oc) ∈ news) (ho : ∀ p ∈ own, p ∈ news) : News h₀ L h ([(B, oB), (c, oc)] ++ own) := by
  intro p hp
  rcases List.mem_append.mp hp with hp | hp
  · rcases List.mem_cons.mp hp with rfl | hp
    · exact N _ hB
    · rw [List.mem_singleton.mp hp]; exact N _ hc
  · exact N p (ho p hp)
def HoldS : Prop := True
local macro_rules | `(tactic| walk_at "subscriptTail Name Slice ref ref") => `(tactic| (k_here; (with_reducible rename HoldS => hmark); refine held ?_))
local macro_rules | `(tactic| walk_at "my:titem") => `(tactic| (k_here; (with_reducible show wpAny _ _ (subscriptTail _ _ (Value.ref _) (Value.int _ _)) _ _ _); k_dflt (refine' my_titem ?t ?z ?b ?j ?x ?_; (case t => exact News.isTup (by k_asm) (by k_mem)); (case z => assumption); (case b => decide); (case j => rfl); (case x => rfl); k_whole)))
local macro_rules | `(tactic| walk_at "subscriptTail Name BinOp ref int") => `(tactic| walk_at "my:titem")
local macro_rules | `(tactic| walk_at "subscriptTail Tuple cons BinOp ref int") => `(tactic| walk_at "my:titem")
local macro_rules | `(tactic| walk_at "subscriptTail Tuple BinOp ref int") => `(tactic| walk_at "my:titem")
local macro_rules | `(tactic| walk_at "subscriptTail Tuple cons BinOp") => `(tactic| walk_at "my:titem")
local macro_rules | `(tactic| walk_at "subscriptTail Tuple") => `(tactic| walk_at "my:titem")
local macro_rules | `(tactic| walk_at "binaryOp Add ref ref") => `(tactic| (k_here; (with_reducible rename HoldA => hmark); refine held ?_))

/-- what holds between the turns of _law_walk's loop -/
abbrev WInv (L' : Addr) (m₀ : Str → Option Value) (i : Nat) (m : Str → Option Value) (nx : List (Addr × Obj)) : Prop := ∃ R vs row k oc v, m (Str.ofString "row") = some (.ref R) ∧ Keeps [Str.ofString "row", Str.ofString "dots", Str.ofString "blank", Str.ofString "names", Str.ofString "read", Str.ofString "there"] m m₀ ∧ nx = [(R, listOf (List.toArray vs) k), (L' + 1, oc)] ∧ Obj.data oc = .cell v ∧ Txs vs row ∧ (∀ p ∈ row, Ab p ∧ p.length ≤ 2) ∧ row.length ≤ 2 + 3 * i ∧ @LT.lt Nat _ (L' + 1) R
theorem walk_ok {w : World} {A : Around} {E : Value → Shared → Prop} {s : Shared} {V : Program} {Lo : List Str} {mg mb : Str → Option Value} {Q : Value → Shared → Prop} {us : List Value} {ds : List Nat} {D : Addr} {n : Nat}
  (X : (hd.heap_1 w.params).In s.heap) (T : TR V Lo mg mb s.heap) (hdp : A.depth + 80 < recursionLimit) (hu : A.units + 800 < cLine) (hh : A.handled = none)
  (hD : s.heap.get? D = some (listOf us.toArray n)) (hus : Nums us ds) (hl : ds.length ≤ 8) (hds : ∀ y ∈ ds, y < 2592)
  (h : ∀ h' t', s.heap.StaysIn h' → Q (.bool true) { s with heap := h', toks := t' }) :
  wpAny (model Pg w) A (call (.ref 209) [.ref D]) Q E s := by
  obtain ⟨hd0, d0, fr0, gu0, un0⟩ := A
  dsimp only at hh hdp hu
  subst hh
  w_on
  have hul := hus.length
  refine' enterC (K := hd.heap_1 w.params) (args := ⟨[.ref D], []⟩) (binds := [(Str.ofString "draws", .ref D)]) X T ?k1 ?k2 ?k3 ?k4 ?k5 ?k9 ?_ ?k6 ?k7 ?k8
  case k1 => k_is
  case k2 => k_is
  case k3 => k_room
  case k4 => exact BindsTo.of_eq rfl
  case k5 => exact rfl
  case k9 => decide +kernel
  case k6 => exact rfl
  case k7 => exact rfl
  case k8 => exact rfl
  intro L' h₁ tk cells F N C
  k_cells C
  try dsimp only
  try simp only [List.cons_append, List.nil_append] at N
  k_unmd
  k_fold
  k_steps
  (with_reducible rename Fr _ _ _ _ => kF)
  (with_reducible rename News _ _ _ _ => kN)
  with_reducible rename Obj.data _ = Data.cell _ => hc0
  refine withMap kF (fun m₀ hm₀ F0 => ?_)
  clear kF
  refine' loop_list (keep := []) rfl F0 kN (F0.keep _ _ hD) ⟨rfl, rfl⟩ (.inl hD) (frNe F0 hD)
    (WInv L' m₀) ?hk ?h0 ?turn ?done
  case hk => intro i m nx _ p hp; cases hp
  case h0 => 
    subst hm₀
    refine ⟨_, _, [[97], [98]], _, _, _, rfl, Keeps.refl, rfl, hc0, ?_, ?_, by decide, by omega⟩
    · rw [lit_a, lit_b]; exact .cons (.cons .nil)
    · intro p hp
      rcases List.mem_cons.mp hp with rfl | hp
      · exact nmOf_ab 0
      · rw [List.mem_singleton.mp hp]; exact nmOf_ab 1
  case done =>
    rintro m₁ news₁ h₂ tk₂ ⟨R, vs, row, k, oc, v, e1, hk, rfl, hoc, hvs, hrow, hrl, hLR⟩ F1 N1
    obtain ⟨u1, u2, u3, u4, u5, rfl⟩ := mf6 e1 hk
    subst hm₀
    clear F0 kN hk e1 hc0
    dsimp only at F1 ⊢
    k_steps
    exact h _ _ (Fr.keep (by assumption))
  case turn =>
    rintro i v m₁ news₁ h₂ tk₂ own hi ⟨R, vs, row, k, oc, v', e1, hk, rfl, hoc, hvs, hrow, hrl, hLR⟩ hoff F1 N1
    obtain ⟨y, t, rfl, hy⟩ := hus.get hi
    have hyz := hds y (List.mem_of_getElem? hy)
    have hil := (List.getElem?_eq_some_iff.mp hy).1
    obtain ⟨u1, u2, u3, u4, u5, rfl⟩ := mf6 e1 hk
    subst hm₀
    clear F0 kN hk e1 hc0
    have hvl := hvs.length
    have hrz : row.length ≤ 26 := by omega
    have hvz : vs.length ≤ 26 := by omega
    have ho1 : ∀ p ∈ own, p.1 ≠ L' + 1 := fun p hp => hoff p hp (L' + 1) (.tail _ (.head _))
    have ho2 : ∀ p ∈ own, p.1 ≠ R := fun p hp => hoff p hp R (.head _)
    dsimp only [List.cons_append, List.nil_append] at F1 N1 ⊢
    have hmk : HoldC := True.intro
    have hmn : HoldN := True.intro
    k_steps
    (with_reducible rename Fr _ _ _ _ => kF)
    rw [bl_eq, dt_eq] at kF
    unfold Held
    refine LCp.Assign_SrcTU (F₀ := by k_asm) (by rfl) (by with_unfolding_all rfl) (by rfl) (by decide) (by rfl) (by decide) (by rfl) (by rfl) (by rfl) ?_
    have hmS : HoldS := True.intro
    k_steps
    unfold Held
    rename HoldS => hmS
    clear hmS
    k_dflt (refine' slice_tupZ ?qF14 ?qN14 ?qm14 ?qc14 ?qd14 ?qz14 ?_; (case qF14 => k_asm); (case qN14 => k_asm); (case qm14 => k_mem); (case qc14 => exact rfl); (case qd14 => exact rfl); (case qz14 => exact Nat.le_of_ble_eq_true rfl); k_whole)
    intro T9 o9 h' F' N' hTc hTd
    try k_sweep
    k_steps
    obtain ⟨n9, hTd⟩ := hTd
    refine ⟨_, _, _, rfl, rfl, by k_asm, by k_asm, .inr ⟨_, .head _, hTc, _, hTd⟩, ?jsz, ?_⟩
    case jsz => rw [List.size_toArray, sizeLine_eq, List.length_take]; exact Nat.le_trans (Nat.min_le_right _ _) (Nat.le_of_ble_eq_true rfl)
    intro g'
    refine rest_genU (fun i => nmOf (y / (szs[i]?.getD 1) % 3)) (.inr ⟨_, .head _, hTc, _, hTd⟩) ?jtake ?jfin
    case jtake =>
      intro i v I oI C oC D ys m₂ h tk E' hv hC hx F N
      rcases three_of (take_of hv) with ⟨rfl, rfl⟩ | ⟨rfl, rfl⟩ | ⟨rfl, rfl⟩
      · have hz : Int.fmod (Int.fdiv (y : Int) 96) 3 = ((y / 96 % 3 : Nat) : Int) := digit_eq y 96
        rcases mod3 (y / 96) with e | e | e
        all_goals
          rw [e] at hz
          k_steps
          (with_reducible rename News _ _ _ _ => kN)
          first
            | exact ⟨⟨_, congrArg (Value.str · _) (nm_a e)⟩, _, _, rfl, by assumption, fun p hp => kN p (.tail _ hp)⟩
            | exact ⟨⟨_, congrArg (Value.str · _) (nm_b e)⟩, _, _, rfl, by assumption, fun p hp => kN p (.tail _ hp)⟩
            | exact ⟨⟨_, congrArg (Value.str · _) (nm_c e)⟩, _, _, rfl, by assumption, fun p hp => kN p (.tail _ hp)⟩
      · have hz : Int.fmod (Int.fdiv (y : Int) 288) 3 = ((y / 288 % 3 : Nat) : Int) := digit_eq y 288
        rcases mod3 (y / 288) with e | e | e
        all_goals
          rw [e] at hz
          k_steps
          (with_reducible rename News _ _ _ _ => kN)
          first
            | exact ⟨⟨_, congrArg (Value.str · _) (nm_a e)⟩, _, _, rfl, by assumption, fun p hp => kN p (.tail _ hp)⟩
            | exact ⟨⟨_, congrArg (Value.str · _) (nm_b e)⟩, _, _, rfl, by assumption, fun p hp => kN p (.tail _ hp)⟩
            | exact ⟨⟨_, congrArg (Value.str · _) (nm_c e)⟩, _, _, rfl, by assumption, fun p hp => kN p (.tail _ hp)⟩
      · have hz : Int.fmod (Int.fdiv (y : Int) 864) 3 = ((y / 864 % 3 : Nat) : Int) := digit_eq y 864
        rcases mod3 (y / 864) with e | e | e
        all_goals
          rw [e] at hz
          k_steps
          (with_reducible rename News _ _ _ _ => kN)
          first
            | exact ⟨⟨_, congrArg (Value.str · _) (nm_a e)⟩, _, _, rfl, by assumption, fun p hp => kN p (.tail _ hp)⟩
            | exact ⟨⟨_, congrArg (Value.str · _) (nm_b e)⟩, _, _, rfl, by assumption, fun p hp => kN p (.tail _ hp)⟩
            | exact ⟨⟨_, congrArg (Value.str · _) (nm_c e)⟩, _, _, rfl, by assumption, fun p hp => kN p (.tail _ hp)⟩
    case jfin =>
      intro us2 hus2
      rw [nms_eq] at hus2
      have hdz : dtOf y ≤ 6 := by unfold dtOf; omega
      have hbz : blOf y ≤ 3 := by unfold blOf; omega
      have hbd : blOf y ≤ dtOf y := by unfold blOf; omega
      have hnl := nms_len y
      have hna : ∀ p ∈ nms y, Ab p := fun p hp => (nms_ab y p hp).1
      have hn2 : ∀ p ∈ nms y, p.length ≤ 2 := fun p hp => (nms_ab y p hp).2
      have hl1 : (Str.ofString " ").length = 1 := by rw [lit_sp]; rfl
      have hz_1 : (tx (List.replicate ((blOf y : Nat) : Int).toNat 46)).length ≤ 10 := by rw [tx_len, List.length_replicate]; omega
      have hz_2 : (tx (List.replicate ((blOf y : Nat) : Int).toNat 46) ++ Str.ofString " ").length ≤ 20 := by rw [Str.length_append, hl1]; omega
      have hz_3 : (tx (List.replicate (((dtOf y : Nat) : Int) - ((blOf y : Nat) : Int)).toNat 46)).length ≤ 10 := by rw [tx_len, List.length_replicate]; omega
      have hz_4 : (tx (List.replicate ((blOf y : Nat) : Int).toNat 46) ++ Str.ofString " " ++ tx (List.replicate (((dtOf y : Nat) : Int) - ((blOf y : Nat) : Int)).toNat 46)).length ≤ 30 := by rw [Str.length_append]; omega
      have hz_5 : (tx (jn 46 (nms y))).length ≤ 10 := by
        have := jn_small (c := 46) hn2
        rw [tx_len]; omega
      k_steps
      refine' strjoin_ok ?jh2 lit_dot hus2 ?jz2 ?jl2 ?_
      case jh2 => walk_at "my:get"
      case jz2 => omega
      case jl2 => omega
      intro _ _
      k_steps
      unfold Held
      rw [walk_text _ _ _ hbd]
      refine' read_ok (ts := [blOf y, dtOf y - blOf y].flatMap toldR ++ toldN (nms y)) ?sX ?sT ?sd ?su ?sh ?jx ?jz3 ?jr ?_
      walk_at "my:site"
      case sh => rfl
      case jx => exact all_app (rep_alpha _) (all_app (a := [32]) rfl (all_app (rep_alpha _) (jn_alpha hna)))
      case jz3 =>
        rw [tx_len] at hz_5 ⊢
        simp only [List.length_append, List.length_replicate, List.length_cons]; omega
      case jr => exact rd_two hna _ _
      intro h' t' R Z ys k kS hZ htk
      (with_reducible rename Fr _ _ _ _ => kF)
      (with_reducible rename News _ _ _ _ => kN)
      have F' := frGo kF kS
      have N' := newsAdd kF (newsGo kN kS) hZ
      clear kF kN kS hZ
      try simp only [List.cons_append, List.nil_append, List.append_assoc] at N'
      (with_reducible rename Tk (inL _) _ _ => ht1)
      k_steps
      unfold Held
      refine' told_ok (rs := [blOf y, dtOf y - blOf y]) (ns := nms y) ?sX ?sT ?sd ?su ?sh ?jD3 ?jn3 ?jE3 ?jv3 ?jl3 ?jb3 ?jm3 ?_
      walk_at "my:site"
      case sh => rfl
      case jD3 => walk_at "my:get"
      case jn3 => exact nums2 rfl (sub_cast hbd)
      case jE3 => walk_at "my:get"
      case jv3 => exact hus2
      case jl3 => exact Nat.le_of_ble_eq_true rfl
      case jb3 =>
        intro c hc
        rcases List.mem_cons.mp hc with rfl | hc
        · omega
        · rw [List.mem_singleton.mp hc]; omega
      case jm3 => omega
      intro h' t' R Z ys k kS hZ htk
      (with_reducible rename Fr _ _ _ _ => kF)
      (with_reducible rename News _ _ _ _ => kN)
      have F' := frGo kF kS
      have N' := newsAdd kF (newsGo kN kS) hZ
      clear kF kN kS hZ
      try simp only [List.cons_append, List.nil_append, List.append_assoc] at N'
      (with_reducible rename Tk (inL _) _ (told _ _) => ht2)
      k_steps
      unfold Held
      refine' my_ne_toks (ts := told [blOf y, dtOf y - blOf y] (nms y)) ?jg4 ?jG4 ?jt4 ?jT4 ?jk4 ?ju4 ?_
      case jg4 => walk_at "my:get"
      case jG4 => walk_at "my:get"
      case jt4 => exact Tk.inNews ht1 (by k_asm) (by intro p hp; simp only [List.mem_cons, List.mem_append, hp, true_or, or_true])
      case jT4 => exact Tk.inNews ht2 (by k_asm) (by intro p hp; simp only [List.mem_cons, List.mem_append, hp, true_or, or_true])
      case jk4 => exact told_ucs2 hna
      case ju4 => k_units
      have hd1 : 1 ≤ dtOf y := by unfold dtOf; omega
      have hmx : (if ((vs.length : Nat) : Int) - ((dtOf y : Nat) : Int) + 1 > 0 then ((vs.length : Nat) : Int) - ((dtOf y : Nat) : Int) + 1 else 0) = ((row.length - (dtOf y - 1) : Nat) : Int) := mx_eq hvl hd1
      have hm0 : 0 ≤ (if ((vs.length : Nat) : Int) - ((dtOf y : Nat) : Int) + 1 > 0 then ((vs.length : Nat) : Int) - ((dtOf y : Nat) : Int) + 1 else 0) := by rw [hmx]; omega
      have hma : HoldA := True.intro
      k_steps
      rename HoldA => hmk
      clear hmk
      unfold Held
      (with_reducible rename News _ _ _ _ => kN)
      rw [hmx, Int.toNat_natCast] at kN
      have hu2l := hus2.length
      have hth : Txs (List.take (row.length - (dtOf y - 1)) vs ++ us2) (thOf row y) := (hvs.take _).app hus2
      have htm : ∀ p ∈ thOf row y, Ab p ∧ p.length ≤ 2 := fun p hp => th_mem hrow hp
      have htl := th_len row y
      have htl3 : (thOf row y).length ≤ 30 := Nat.le_trans htl (Nat.le_trans (Nat.add_le_add_right hrz 3) (Nat.le_of_ble_eq_true rfl))
      have htl2 : (thOf row y).length ≤ 100 := Nat.le_trans htl3 (Nat.le_of_ble_eq_true rfl)
      have hrl2 : row.length ≤ 100 := by omega
      have hzr := place_small hrow hrl2
      have hzt := place_small htm htl2
      have hrn : ∀ p ∈ row, Nm p := fun p hp => ab_nm (hrow p hp).1
      have htn : ∀ p ∈ thOf row y, Nm p := fun p hp => ab_nm (htm p hp).1
      have hq0 : ((47 :: jn 47 (thOf row y)) != (47 :: jn 47 (thOf row y))) = false := by simp
      have hq1 : ((47 :: jn 47 (row.take (alk row (thOf row y)))) != (47 :: jn 47 (row.take (alk row (thOf row y))))) = false := by simp
      have htk3 : Txs (List.take (alk row (thOf row y)) vs) (row.take (alk row (thOf row y))) := hvs.take _
      have hzk := place_take hrow hrl2 (alk row (thOf row y))
      have hkl : (row.take (alk row (thOf row y))).length ≤ 100 := Nat.le_trans (List.length_take_le' _ _) hrl2
      k_steps
      unfold Held
      refine' reached_ok (ts := [blOf y, dtOf y - blOf y].flatMap toldR ++ toldN (nms y)) (ds := thOf row y) ?sX ?sT ?sd ?su ?sh ?jR5 ?jt5 ?jp5 ?jl5 ?jr5 ?jn5 ?jz5 ?jq5 ?_
      walk_at "my:site"
      case sh => rfl
      case jR5 => walk_at "my:get"
      case jt5 => exact Tk.inNews ht1 (by k_asm) (by intro p hp; simp only [List.mem_cons, List.mem_append, hp, true_or, or_true])
      case jp5 => exact told_ucs hna
      case jl5 =>
        refine told_len (Nat.le_of_ble_eq_true rfl) (fun c hc => ?_) (by omega)
        rcases List.mem_cons.mp hc with rfl | hc
        · omega
        · rw [List.mem_singleton.mp hc]; omega
      case jr5 => exact fun p hp => ⟨(hrn p hp).1, (hrn p hp).2.1⟩
      case jn5 => rw [goUp_told]; exact fun p hp => ⟨(ab_nm (hna p hp)).1, (ab_nm (hna p hp)).2.1⟩
      case jz5 =>
        rw [goUp_told]
        exact out_small (k := dtOf y - 1) (by simp only [List.sum_cons, List.sum_nil, ups2 hbd]) (fun p hp => (hrow p hp).2) hn2 (le_200 hrz hdz hnl)
      case jq5 =>
        rw [goUp_told]
        have e2 : ((-1 : Int) + (([blOf y, dtOf y - blOf y].sum : Nat) : Int)).toNat = dtOf y - 1 := by simp only [List.sum_cons, List.sum_nil, ups2 hbd]
        unfold outPath
        rw [e2, nrm_out hrn fun p hp => ab_nm (hna p hp)]
        rfl
      intro _ _ _ _
      walk_at "my:carry"
      k_steps
      unfold Held
      refine' cpath_ok (row := row) (there := thOf row y) ?sX ?sT ?sd ?su ?sh ?jD6 ?jr6 ?jt6 ?jz6 ?jZ6 ?_
      walk_at "my:site"
      case sh => rfl
      case jD6 => walk_at "my:get"
      case jr6 => exact hrn
      case jt6 => exact htn
      case jz6 => exact hzr
      case jZ6 => exact hzt
      intro _ _ _ _
      walk_at "my:carry"
      k_steps
      unfold Held
      refine' alike_ok ?sX ?sT ?sd ?su ?qsh15 ?qjD15 ?qjv15 ?qjE15 ?qjw15 ?qjl15 ?qjk15 ?_
      walk_at "my:site"
      case qsh15 => first | rfl | assumption
      case qjD15 => walk_at "my:get"
      case qjE15 => walk_at "my:get"
      case qjv15 => assumption
      case qjw15 => assumption
      case qjl15 => first | assumption | omega
      case qjk15 => first | assumption | omega
      intro _ _ _ _
      walk_at "my:carry"
      k_steps
      unfold Held
      refine' back_ok (row := row) (there := thOf row y) ?sX ?sT ?sd ?su ?sh ?jD7 ?jv7 ?jE7 ?jw7 ?ja7 ?jb7 ?jl7 ?jm7 ?jp7 ?jq7 ?_
      walk_at "my:site"
      case sh => rfl
      case jD7 => walk_at "my:get"
      case jE7 => walk_at "my:get"
      case jv7 => exact hvs
      case jw7 => exact hth
      case ja7 => exact fun p hp => (hrow p hp).1
      case jb7 => exact fun p hp => (htm p hp).1
      case jl7 => exact Nat.le_trans hrz (Nat.le_of_ble_eq_true rfl)
      case jm7 => exact htl3
      case jp7 => exact fun p hp => (hrow p hp).2
      case jq7 => exact fun p hp => (htm p hp).2
      intro _ _ _
      walk_at "my:carry"
      k_steps
      (with_reducible rename Fr _ _ _ _ => kF)
      (with_reducible rename News _ _ _ _ => kN)
      with_reducible rename Obj.data _ = Data.cell _ => hc9
      have N4 := walk_turn (own := own) (c := L' + 1) (oB := listOf (List.take (row.length - (dtOf y - 1)) vs ++ us2).toArray 0) kN (by k_mem) (by k_mem) (by intro p hp; simp only [List.mem_cons, List.mem_append, hp, true_or, or_true])
      refine' MyTurnEnd.intro kF N4 (fun p hp => hp) ?jno ⟨_, _, thOf row y, _, _, _, rfl, keeps6 ?jke, rfl, hc9, hth, htm, ?jle, ?jlt⟩
      case jno => exact .cons rfl (.cons (noIt_ref hc9) .nil)
      case jke => intro z h0 h1 h2 h3 h4 h5; simp only [if_neg h0, if_neg h1, if_neg h2, if_neg h3, if_neg h4, if_neg h5]
      case jle => omega
      case jlt => omega

theorem nums_of_ints : ∀ {vs : List Value} {is : List Int}, IntsAre vs is → (∀ i ∈ is, 0 ≤ i) → Nums vs (is.map Int.toNat)
  | _, _, .nil, _ => .nil
  | _, _, .cons i t r, h => by
    have h1 := h i (by simp)
    have e : (i.toNat : Int) = i := Int.toNat_of_nonneg h1
    have ih := nums_of_ints r fun j hj => h j (List.mem_cons_of_mem _ hj)
    rw [List.map_cons]
    have := Nums.cons (x := i.toNat) (t := t) ih
    rw [e] at this
    exact this
theorem law_ints (xs : List Int) : ∀ i ∈ (List.map (fun k' => (if k' < 0 then -k' else k').fmod 2592) (List.take 8 xs)), 0 ≤ i ∧ i < 2592 := by
  intro i hi
  obtain ⟨k, _, rfl⟩ := List.mem_map.mp hi
  exact ⟨Int.fmod_nonneg_of_pos _ (by decide), Int.fmod_lt_of_pos _ (by decide)⟩
theorem law_nums {xs : List Int} {ys : List Value} (hI : IntsAre ys (List.map (fun k' => (if k' < 0 then -k' else k').fmod 2592) (List.take 8 xs))) : ∃ ds : List Nat, Nums ys ds ∧ ds.length ≤ 8 ∧ ∀ y ∈ ds, y < 2592 := by
  refine ⟨_, nums_of_ints hI fun i hi => (law_ints xs i hi).1, ?_, ?_⟩
  · rw [List.length_map, List.length_map, List.length_take]; omega
  · intro y hy
    obtain ⟨i, hi, rfl⟩ := List.mem_map.mp hy
    have := law_ints xs i hi
    omega
local macro_rules | `(tactic| walk_at "call ref") => `(tactic| (k_here; (with_reducible show wpAny _ _ (call (Value.ref 209) _ _) _ _ _); refine held ?_))
theorem lawT.tw6166757456829074725 : True := trivial
theorem lawT.tw5115072813613212902 : True := trivial
theorem lawT.tw814354093289922743 : True := trivial
theorem lawT.tw1078735106661357154 : True := trivial
theorem lawT.tw7260539514740174592 : True := trivial
theorem lawT.tw8445957942363573884 : True := trivial
theorem lawT.tw11801720471845031063 : True := trivial
theorem lawT.tw16497179986206410780 : True := trivial
theorem lawT.tw15019770807665042143 : True := trivial
theorem lawT.tw4116508749651395605 : True := trivial
theorem lawT.tw13520986291065989830 : True := trivial
theorem lawT.tw17951894131356942447 : True := trivial
theorem lawT.tw10994564639479759493 : True := trivial
theorem lawT.tw12485971303258090074 : True := trivial
theorem lawT.tw2626335934222790227 : True := trivial
theorem lawT.tw8177230591221756081 : True := trivial
theorem lawT.tw12015109101949664789 : True := trivial
theorem lawT.tw11550143704304662060 : True := trivial
theorem lawT.tw15091403282526227135 : True := trivial
theorem lawT.tw6200819308991098794 : True := trivial
theorem lawT.tw4020118860816529515 : True := trivial
theorem lawT.tw13512623714493146785 : True := trivial
theorem lawT.tw9657460840248799940 : True := trivial
theorem lawT.tw2505563282501131753 : True := trivial
theorem lawT.tw2842617487397823366 : True := trivial
theorem lawT.tw7805270066356673609 : True := trivial
theorem lawT.tw13618077616310767492 : True := trivial
theorem lawT.tw2049758658053727338 : True := trivial
theorem lawT.tw10433576947672777602 : True := trivial
theorem lawT.tw16306742552841901821 : True := trivial
theorem lawT.tw12543857911111510591 : True := trivial
theorem lawT.tw5685452176784765555 : True := trivial
theorem lawT.tw3976314561491620509 : True := trivial
theorem lawT.tw12726983926389169882 : True := trivial
theorem lawT.tw2513484474726584552 : True := trivial
theorem lawT.tw10910714276845596366 : True := trivial
theorem lawT.tw7823307338651830179 : True := trivial
theorem lawT.tw17971521251297242891 : True := trivial
theorem lawT.tw3975705244263904573 : True := trivial
theorem lawT.tw6708419345233149503 : True := trivial
theorem lawT.tw17964953070971125951 : True := trivial
theorem lawT.tw9119811756300782085 : True := trivial
theorem lawT.tw3869276220796434156 : True := trivial
theorem lawT.tw18276173046829070583 : True := trivial
theorem lawT.tw9163976727522603320 : True := trivial
theorem lawT.tw11142323361574388423 : True := trivial
theorem lawT.tw5146757103484071177 : True := trivial
theorem lawT.tw17210016377997813347 : True := trivial
theorem lawT.tw10136614934363614362 : True := trivial
theorem lawT.tw3600973503921405142 : True := trivial
theorem lawT.tw7972202448828427157 : True := trivial
theorem lawT.tw989518810207633406 : True := trivial
theorem lawT.tw15915182530413434248 : True := trivial
theorem lawT.tw12435587192376667892 : True := trivial
theorem lawT.tw5777732143184679343 : True := trivial
theorem lawT.tw5112610731112245267 : True := trivial
theorem lawT.tw10152473889695249326 : True := trivial
theorem lawT.tw18269623164011064857 : True := trivial
theorem lawT.tw13570691405821388083 : True := trivial
theorem lawT.tw5672398138771548517 : True := trivial
theorem lawT.tw2528273637766395757 : True := trivial
theorem lawT.tw13429782191512565576 : True := trivial
theorem lawT.tw161236207124493297 : True := trivial
theorem lawT.tw18261975111296914062 : True := trivial
theorem lawT.tw18223634802368376262 : True := trivial
theorem lawT.tw17912130172406275858 : True := trivial
theorem lawT.tw1575322794432820369 : True := trivial
theorem lawT.tw16778347415218873335 : True := trivial
theorem lawT.tw2802827502222440997 : True := trivial
theorem lawT.tw1757822339931356419 : True := trivial
theorem lawT.tw3301265043726181235 : True := trivial
theorem lawT.tw11829515660546671352 : True := trivial
theorem lawT.tw6021158008034930837 : True := trivial
theorem lawT.tw7781485550899621842 : True := trivial
theorem lawT.tw7196705921500699120 : True := trivial
theorem lawT.tw12142888666006092190 : True := trivial
theorem lawT.tw657803544411238881 : True := trivial
theorem lawT.tw13662298240663484823 : True := trivial
theorem lawT.tw5637789023679369 : True := trivial
theorem lawT.tw10811335992638853385 : True := trivial
theorem lawT.tw18158542721355556584 : True := trivial
theorem lawT.tw8560043932462986958 : True := trivial
theorem lawT.tw2337608521092029074 : True := trivial
theorem lawT.tw5181950027602448700 : True := trivial
theorem lawT.tw14935867393346671497 : True := trivial
theorem lawT.tw3061268461672246630 : True := trivial
theorem lawT.tw10061725491284593803 : True := trivial
theorem lawT.tw16241256156001525921 : True := trivial
theorem lawT.tw8395178377750397819 : True := trivial
theorem lawT.tw16829802788435467021 : True := trivial
theorem lawT.tw11940500063520303285 : True := trivial
theorem lawT.tw4998365212404623943 : True := trivial
theorem lawT.tw5557012422627736715 : True := trivial
theorem lawT.tw16490950055996847365 : True := trivial
theorem lawT.tw16082472082098890317 : True := trivial
theorem lawT.tw5440105020635474762 : True := trivial
theorem lawT.tw5841912047760791565 : True := trivial
theorem lawT.tw12663660485266932870 : True := trivial
theorem lawT.tw3330372189238011941 : True := trivial
theorem lawT.tw8998962842479662434 : True := trivial
theorem lawT.tw9216025942106486930 : True := trivial
theorem lawT.tw15626567919816005885 : True := trivial
theorem lawT.tw3531076201778258167 : True := trivial
theorem lawT.tw16945139769450650382 : True := trivial
theorem lawT.tw3485242171588594322 : True := trivial
theorem lawT.tw14062160007318399088 : True := trivial
theorem lawT.tw7755915363204515821 : True := trivial
theorem lawT.tw11344295216304715190 : True := trivial
theorem lawT.tw17329614748342530544 : True := trivial
theorem lawT.tw15810202214831364308 : True := trivial
theorem lawT.tw403272296947751199 : True := trivial
theorem lawT.tw5337910717478668231 : True := trivial
theorem lawT.tw3956217345532885462 : True := trivial
theorem lawT.tw9880130190255100492 : True := trivial
theorem lawT.tw9519953200757049573 : True := trivial
theorem lawT.tw3953290071102543430 : True := trivial
theorem lawT.tw14319742205934214395 : True := trivial
theorem lawT.tw3556048773974950814 : True := trivial
theorem lawT.tw17068940109249155700 : True := trivial
theorem lawT.tw1558034353231879244 : True := trivial
theorem lawT.tw1148404147863944223 : True := trivial
theorem lawT.tw15509038345383312657 : True := trivial
theorem lawT.tw8422231875115447965 : True := trivial
theorem lawT.tw5193995869548900021 : True := trivial
theorem lawT.tw9728888759220732948 : True := trivial
theorem lawT.tw11322272262455122332 : True := trivial
theorem lawT.tw12631748491714779444 : True := trivial
theorem lawT.tw17288560384106460444 : True := trivial
theorem lawT.tw6711351219207336675 : True := trivial
theorem lawT.tw10646392610100365873 : True := trivial
theorem lawT.tw11772040398809012133 : True := trivial
theorem lawT.tw12440985681581897651 : True := trivial
theorem lawT.tw12640776883751236900 : True := trivial
theorem lawT.tw11523093003099482930 : True := trivial
theorem lawT.tw16006419813415432031 : True := trivial
theorem lawT.tw17477790656375069214 : True := trivial
theorem lawT.tw9581178252162330285 : True := trivial
theorem lawT.tw17103209499194658948 : True := trivial
theorem lawT.tw14719439851186160715 : True := trivial
theorem lawT.tw16257080871033373497 : True := trivial
theorem lawT.tw16603553929745672810 : True := trivial
theorem lawT.tw12791477787916010190 : True := trivial
theorem lawT.tw4512382646177399360 : True := trivial
theorem lawT.tw18206491639748473151 : True := trivial
theorem lawT.tw16860173950001930000 : True := trivial
theorem lawT.tw16153991904484936447 : True := trivial
theorem lawT.tw5938903580142964605 : True := trivial
theorem lawT.tw5597621963111361625 : True := trivial
theorem lawT.tw8494572045984804555 : True := trivial
theorem lawT.tw7528176536728550346 : True := trivial
theorem lawT.tw14813322233397399043 : True := trivial
theorem lawT.tw5419045448380873236 : True := trivial
theorem lawT.tw9820752921979625601 : True := trivial
theorem lawT.tw5955575613845378753 : True := trivial
theorem lawT.tw2767353445721626788 : True := trivial
theorem lawT.tw14277062285831900126 : True := trivial
theorem lawT.tw18292367192976940542 : True := trivial
theorem lawT.tw5926671564514635346 : True := trivial
theorem lawT.tw9533548494797678716 : True := trivial
theorem lawT.tw2729678275248368595 : True := trivial
theorem lawT.tw15484889170718625679 : True := trivial
theorem lawT.tw15997194886456340820 : True := trivial
theorem lawT.tw12148027733593142790 : True := trivial
theorem lawT.tw12768497168819598045 : True := trivial
theorem lawT.tw15834030459643286150 : True := trivial
theorem lawT.tw4967494921771670518 : True := trivial
theorem lawT.tw7543043752514519370 : True := trivial
theorem lawT.tw2243441803968818577 : True := trivial
theorem lawT.tw414198083536957076 : True := trivial
theorem lawT.tw11146471674304743394 : True := trivial
theorem lawT.tw7529985242682883274 : True := trivial
theorem lawT.tw2298782074097359716 : True := trivial
theorem lawT.tw15486704684958788713 : True := trivial
theorem lawT.tw7597866931890042018 : True := trivial
theorem lawT.tw6762583436824678750 : True := trivial
theorem lawT.tw18030087037689892010 : True := trivial
theorem lawT.tw11772424609704981507 : True := trivial
theorem lawT.tw7074917898846072095 : True := trivial
theorem lawT.tw7863209290797756483 : True := trivial
theorem lawT.tw11272041186597935263 : True := trivial
theorem lawT.tw15671150107616815002 : True := trivial
theorem lawT.tw5697029633759776848 : True := trivial
theorem lawT.tw1155625789869916225 : True := trivial
theorem lawT.tw9093347588758853463 : True := trivial
theorem lawT.tw9489773768955457591 : True := trivial
theorem lawT.tw15170974509361797054 : True := trivial
theorem lawT.tw8770399086679700279 : True := trivial
theorem lawT.tw11858955717896915996 : True := trivial
theorem lawT.tw15094137676452916655 : True := trivial
theorem lawT.tw8253655312643564786 : True := trivial
theorem lawT.tw16404650048409002 : True := trivial
theorem lawT.tw6738108866513998953 : True := trivial
theorem lawT.tw8320285658908009362 : True := trivial
theorem lawT.tw151694815857839985 : True := trivial
theorem lawT.tw17034741657396157475 : True := trivial
theorem lawT.tw6150572265032274324 : True := trivial
theorem lawT.tw6314445845500888954 : True := trivial
theorem lawT.tw16191367524700279964 : True := trivial
theorem lawT.tw6215741870073834074 : True := trivial
theorem lawT.tw340575432980958467 : True := trivial
theorem lawT.tw13325186715389734152 : True := trivial
theorem lawT.tw184270684030672397 : True := trivial
set_option Elab.async true
theorem lawT : PySem.Challenge.rw_in0311_01.Holds := by
  w_on
  o_law
  k_head
  (case hw => w_witness2)
  k_go0
  (all_goals try k_fold)
  k_steps
  · unfold Held
    (with_reducible rename Fr _ _ _ _ => kF)
    (with_reducible rename News _ _ _ _ => kN)
    (with_reducible rename Frag.In _ _ => kX)
    (with_reducible rename Top _ _ _ _ _ _ => kT)
    with_reducible rename IntsAre _ (List.map _ (List.take 8 _)) => hI
    obtain ⟨ds, hn8, hl8, hb8⟩ := law_nums hI
    refine' walk_ok (ds := ds) (Frag.In.keeps kX kF.keep) (TopRead.keeps (topRead_of kT) kF.keep) ?sd ?su ?sh ?jD ?jn ?jl ?jb ?_
    case sd => k_room
    case su => k_units
    case sh => rfl
    case jD => exact (kN _ (.head _)).1
    case jn => exact hn8
    case jl => exact hl8
    case jb => exact hb8
    intro _ _ _
    walk_at "my:carry"
    k_steps
  · unfold Held
    (with_reducible rename Fr _ _ _ _ => kF)
    (with_reducible rename News _ _ _ _ => kN)
    (with_reducible rename Frag.In _ _ => kX)
    (with_reducible rename Top _ _ _ _ _ _ => kT)
    refine' walk_ok (ds := [639, 122]) (Frag.In.keeps kX kF.keep) (TopRead.keeps (topRead_of kT) kF.keep) ?sd ?su ?sh ?jD ?jn ?jl ?jb ?_
    case sd => k_room
    case su => k_units
    case sh => rfl
    case jD => exact (kN _ (.head _)).1
    case jn => exact .cons (.cons .nil)
    case jl => decide
    case jb => decide
    intro _ _ _
    walk_at "my:carry"
    k_steps

end Mine
theorem PySem.Challenge.cw_in0311_01_holds : PySem.Challenge.rw_in0311_01.Holds := by
  exact Mine.lawT
