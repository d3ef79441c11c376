import PyProof.Rows.All
import Wide.All
import OpenK.AllK
import Wide.FinOn
import PySem.Challenge.RW_sn0070_01
open PySem PySem.W PySem.Calls PyProof.Rows
set_option Elab.async false
set_option maxRecDepth 100000
set_option maxHeartbeats 0
set_option linter.all false
set_option compiler.extract_closed false
set_option genInjectivity false
set_option genSizeOf false
section
namespace Mine
noncomputable def impEndsT (tb : String → Option Builtin) (p : Program) (w : World) : Nat → SharedT → Thread → Option SharedT
  | 0, _, _ => none
  | n + 1, s, t => match t.atExitBegin with
    | some [] => some s
    | some (_ :: _) => none
    | none => match stepT (denote tb) p w s t with
      | some (s', t') => impEndsT tb p w n s' t'
      | none => none
theorem impEnds_of {tb : String → Option Builtin} {p : Program} {w : World} : ∀ {n : Nat} {s s' : SharedT} {t : Thread}, impEndsT tb p w n s t = some s' → importEnds tb p w n s.abs t = some s'.abs
  | 0, _, _, _, h => by cases h
  | n + 1, s, s', t, h => by
    unfold impEndsT at h
    unfold importEnds
    cases he : t.atExitBegin with
    | some x =>
      rw [he] at h
      cases x with
      | nil => cases h; rfl
      | cons _ _ => cases h
    | none =>
      rw [he] at h
      cases hs : stepT (denote tb) p w s t with
      | none => rw [hs] at h; cases h
      | some r => obtain ⟨s₂, t₂⟩ := r; rw [hs] at h; dsimp only; rw [stepT_spec hs]; exact impEnds_of h
noncomputable abbrev pw : Program := PySem.Challenge.pw_sn0070_01
noncomputable def fdOf (s : Stmt) : Arguments × List Stmt × Scope := match s with | .FunctionDef _ a b _ _ _ sc _ _ _ => (a, b, sc) | _ => default
noncomputable def stm (i : Nat) : Stmt := (pw.main.body[i]?).getD default
noncomputable def mth (i j : Nat) : Stmt := match stm i with | .ClassDef _ _ _ b _ _ _ _ _ _ _ => (b[j]?).getD default | _ => default
noncomputable def o0_e_c0 (P : Params) (r : List DictEntry) : List DictEntry := (⟨PyData.keyHash P (Str.mk #[95, 95, 110, 97, 109, 101, 95, 95]), (.str (Str.mk #[95, 95, 110, 97, 109, 101, 95, 95]) 1), (.str (Str.mk #[98, 117, 105, 108, 116, 105, 110, 115]) 160)⟩ : DictEntry) :: (⟨PyData.keyHash P (Str.mk #[95, 95, 100, 111, 99, 95, 95]), (.str (Str.mk #[95, 95, 100, 111, 99, 95, 95]) 2), (.builtin "builtins.__doc__:str#opaque")⟩ : DictEntry) :: (⟨PyData.keyHash P (Str.mk #[95, 95, 112, 97, 99, 107, 97, 103, 101, 95, 95]), (.str (Str.mk #[95, 95, 112, 97, 99, 107, 97, 103, 101, 95, 95]) 3), (.builtin "builtins.__package__:str#opaque")⟩ : DictEntry) :: (⟨PyData.keyHash P (Str.mk #[95, 95, 108, 111, 97, 100, 101, 114, 95, 95]), (.str (Str.mk #[95, 95, 108, 111, 97, 100, 101, 114, 95, 95]) 4), (.builtin "builtins.__loader__:shared#opaque")⟩ : DictEntry) :: (⟨PyData.keyHash P (Str.mk #[95, 95, 115, 112, 101, 99, 95, 95]), (.str (Str.mk #[95, 95, 115, 112, 101, 99, 95, 95]) 5), (.builtin PySem.W.SL.s11665532747177232413x24)⟩ : DictEntry) :: (⟨PyData.keyHash P (Str.mk #[95, 95, 98, 117, 105, 108, 100, 95, 99, 108, 97, 115, 115, 95, 95]), (.str (Str.mk #[95, 95, 98, 117, 105, 108, 100, 95, 99, 108, 97, 115, 115, 95, 95]) 6), (.builtin PySem.W.SL.s15183661809925369436x15)⟩ : DictEntry) :: r
noncomputable def o0_e_c1 (P : Params) (r : List DictEntry) : List DictEntry := (⟨PyData.keyHash P (Str.mk #[95, 95, 105, 109, 112, 111, 114, 116, 95, 95]), (.str (Str.mk #[95, 95, 105, 109, 112, 111, 114, 116, 95, 95]) 7), (.builtin PySem.W.SL.s13915890719876406383x10)⟩ : DictEntry) :: (⟨PyData.keyHash P (Str.mk #[97, 98, 115]), (.str (Str.mk #[97, 98, 115]) 8), (.builtin PySem.W.SL.s13459172003223722735x3)⟩ : DictEntry) :: (⟨PyData.keyHash P (Str.mk #[97, 108, 108]), (.str (Str.mk #[97, 108, 108]) 9), (.builtin PySem.W.SL.s10557405761357834076x3)⟩ : DictEntry) :: (⟨PyData.keyHash P (Str.mk #[97, 110, 121]), (.str (Str.mk #[97, 110, 121]) 10), (.builtin PySem.W.SL.s4233737765568776869x3)⟩ : DictEntry) :: (⟨PyData.keyHash P (Str.mk #[97, 115, 99, 105, 105]), (.str (Str.mk #[97, 115, 99, 105, 105]) 11), (.builtin PySem.W.SL.s2508922471967985374x5)⟩ : DictEntry) :: (⟨PyData.keyHash P (Str.mk #[98, 105, 110]), (.str (Str.mk #[98, 105, 110]) 12), (.builtin PySem.W.SL.s15574269061696679450x3)⟩ : DictEntry) :: r
noncomputable def o0_e_c2 (P : Params) (r : List DictEntry) : List DictEntry := (⟨PyData.keyHash P (Str.mk #[98, 114, 101, 97, 107, 112, 111, 105, 110, 116]), (.str (Str.mk #[98, 114, 101, 97, 107, 112, 111, 105, 110, 116]) 13), (.builtin PySem.W.SL.s6016482663378992977x10)⟩ : DictEntry) :: (⟨PyData.keyHash P (Str.mk #[99, 97, 108, 108, 97, 98, 108, 101]), (.str (Str.mk #[99, 97, 108, 108, 97, 98, 108, 101]) 14), (.builtin PySem.W.SL.s5596568736180474577x8)⟩ : DictEntry) :: (⟨PyData.keyHash P (Str.mk #[99, 104, 114]), (.str (Str.mk #[99, 104, 114]) 15), (.builtin PySem.W.SL.s2839554839881490554x3)⟩ : DictEntry) :: (⟨PyData.keyHash P (Str.mk #[99, 111, 109, 112, 105, 108, 101]), (.str (Str.mk #[99, 111, 109, 112, 105, 108, 101]) 16), (.builtin PySem.W.SL.s725004073602090463x7)⟩ : DictEntry) :: (⟨PyData.keyHash P (Str.mk #[100, 101, 108, 97, 116, 116, 114]), (.str (Str.mk #[100, 101, 108, 97, 116, 116, 114]) 17), (.builtin PySem.W.SL.s9436932552931045734x7)⟩ : DictEntry) :: (⟨PyData.keyHash P (Str.mk #[100, 105, 114]), (.str (Str.mk #[100, 105, 114]) 18), (.builtin PySem.W.SL.s2754603736356183583x3)⟩ : DictEntry) :: r
noncomputable def o0_e_c3 (P : Params) (r : List DictEntry) : List DictEntry := (⟨PyData.keyHash P (Str.mk #[100, 105, 118, 109, 111, 100]), (.str (Str.mk #[100, 105, 118, 109, 111, 100]) 19), (.builtin PySem.W.SL.s15185746759980889043x6)⟩ : DictEntry) :: (⟨PyData.keyHash P (Str.mk #[101, 118, 97, 108]), (.str (Str.mk #[101, 118, 97, 108]) 20), (.builtin PySem.W.SL.s8192189862530294059x4)⟩ : DictEntry) :: (⟨PyData.keyHash P (Str.mk #[101, 120, 101, 99]), (.str (Str.mk #[101, 120, 101, 99]) 21), (.builtin PySem.W.SL.s7038307821325472102x4)⟩ : DictEntry) :: (⟨PyData.keyHash P (Str.mk #[102, 111, 114, 109, 97, 116]), (.str (Str.mk #[102, 111, 114, 109, 97, 116]) 22), (.builtin PySem.W.SL.s5662562618415449548x6)⟩ : DictEntry) :: (⟨PyData.keyHash P (Str.mk #[103, 101, 116, 97, 116, 116, 114]), (.str (Str.mk #[103, 101, 116, 97, 116, 116, 114]) 23), (.builtin PySem.W.SL.s15281542589158584767x7)⟩ : DictEntry) :: (⟨PyData.keyHash P (Str.mk #[103, 108, 111, 98, 97, 108, 115]), (.str (Str.mk #[103, 108, 111, 98, 97, 108, 115]) 24), (.builtin PySem.W.SL.s17651547275483570877x7)⟩ : DictEntry) :: r
noncomputable def o0_e_c4 (P : Params) (r : List DictEntry) : List DictEntry := (⟨PyData.keyHash P (Str.mk #[104, 97, 115, 97, 116, 116, 114]), (.str (Str.mk #[104, 97, 115, 97, 116, 116, 114]) 25), (.builtin PySem.W.SL.s4036449017235975746x7)⟩ : DictEntry) :: (⟨PyData.keyHash P (Str.mk #[104, 97, 115, 104]), (.str (Str.mk #[104, 97, 115, 104]) 26), (.builtin PySem.W.SL.s8879979712987360175x4)⟩ : DictEntry) :: (⟨PyData.keyHash P (Str.mk #[104, 101, 120]), (.str (Str.mk #[104, 101, 120]) 27), (.builtin PySem.W.SL.s1801250619170735830x3)⟩ : DictEntry) :: (⟨PyData.keyHash P (Str.mk #[105, 100]), (.str (Str.mk #[105, 100]) 28), (.builtin PySem.W.SL.s17659931425627118568x2)⟩ : DictEntry) :: (⟨PyData.keyHash P (Str.mk #[105, 110, 112, 117, 116]), (.str (Str.mk #[105, 110, 112, 117, 116]) 29), (.builtin PySem.W.SL.s6063217899685152688x5)⟩ : DictEntry) :: (⟨PyData.keyHash P (Str.mk #[105, 115, 105, 110, 115, 116, 97, 110, 99, 101]), (.str (Str.mk #[105, 115, 105, 110, 115, 116, 97, 110, 99, 101]) 30), (.builtin PySem.W.SL.s8008927332132565319x10)⟩ : DictEntry) :: r
noncomputable def o0_e_c5 (P : Params) (r : List DictEntry) : List DictEntry := (⟨PyData.keyHash P (Str.mk #[105, 115, 115, 117, 98, 99, 108, 97, 115, 115]), (.str (Str.mk #[105, 115, 115, 117, 98, 99, 108, 97, 115, 115]) 31), (.builtin PySem.W.SL.s3544116645089599534x10)⟩ : DictEntry) :: (⟨PyData.keyHash P (Str.mk #[105, 116, 101, 114]), (.str (Str.mk #[105, 116, 101, 114]) 32), (.builtin PySem.W.SL.s13761710972054866084x4)⟩ : DictEntry) :: (⟨PyData.keyHash P (Str.mk #[97, 105, 116, 101, 114]), (.str (Str.mk #[97, 105, 116, 101, 114]) 33), (.builtin PySem.W.SL.s12896375587409280029x5)⟩ : DictEntry) :: (⟨PyData.keyHash P (Str.mk #[108, 101, 110]), (.str (Str.mk #[108, 101, 110]) 34), (.builtin PySem.W.SL.s13014049009108672802x3)⟩ : DictEntry) :: (⟨PyData.keyHash P (Str.mk #[108, 111, 99, 97, 108, 115]), (.str (Str.mk #[108, 111, 99, 97, 108, 115]) 35), (.builtin PySem.W.SL.s13935586738268321596x6)⟩ : DictEntry) :: (⟨PyData.keyHash P (Str.mk #[109, 97, 120]), (.str (Str.mk #[109, 97, 120]) 36), (.builtin PySem.W.SL.s8200498257699607233x3)⟩ : DictEntry) :: r
noncomputable def o0_e_c6 (P : Params) (r : List DictEntry) : List DictEntry := (⟨PyData.keyHash P (Str.mk #[109, 105, 110]), (.str (Str.mk #[109, 105, 110]) 37), (.builtin PySem.W.SL.s14114244577727609259x3)⟩ : DictEntry) :: (⟨PyData.keyHash P (Str.mk #[110, 101, 120, 116]), (.str (Str.mk #[110, 101, 120, 116]) 38), (.builtin PySem.W.SL.s1499430450269397089x4)⟩ : DictEntry) :: (⟨PyData.keyHash P (Str.mk #[97, 110, 101, 120, 116]), (.str (Str.mk #[97, 110, 101, 120, 116]) 39), (.builtin PySem.W.SL.s8755793994789770505x5)⟩ : DictEntry) :: (⟨PyData.keyHash P (Str.mk #[111, 99, 116]), (.str (Str.mk #[111, 99, 116]) 40), (.builtin PySem.W.SL.s15725212667919936108x3)⟩ : DictEntry) :: (⟨PyData.keyHash P (Str.mk #[111, 114, 100]), (.str (Str.mk #[111, 114, 100]) 41), (.builtin PySem.W.SL.s15791221867095933363x3)⟩ : DictEntry) :: (⟨PyData.keyHash P (Str.mk #[112, 111, 119]), (.str (Str.mk #[112, 111, 119]) 42), (.builtin PySem.W.SL.s81309575031448614x3)⟩ : DictEntry) :: r
noncomputable def o0_e_c7 (P : Params) (r : List DictEntry) : List DictEntry := (⟨PyData.keyHash P (Str.mk #[112, 114, 105, 110, 116]), (.str (Str.mk #[112, 114, 105, 110, 116]) 43), (.builtin PySem.W.SL.s8069831620301644142x5)⟩ : DictEntry) :: (⟨PyData.keyHash P (Str.mk #[114, 101, 112, 114]), (.str (Str.mk #[114, 101, 112, 114]) 44), (.builtin PySem.W.SL.s10061844253413749634x4)⟩ : DictEntry) :: (⟨PyData.keyHash P (Str.mk #[114, 111, 117, 110, 100]), (.str (Str.mk #[114, 111, 117, 110, 100]) 45), (.builtin PySem.W.SL.s9496514870978017513x5)⟩ : DictEntry) :: (⟨PyData.keyHash P (Str.mk #[115, 101, 116, 97, 116, 116, 114]), (.str (Str.mk #[115, 101, 116, 97, 116, 116, 114]) 46), (.builtin PySem.W.SL.s8899691144933366716x7)⟩ : DictEntry) :: (⟨PyData.keyHash P (Str.mk #[115, 111, 114, 116, 101, 100]), (.str (Str.mk #[115, 111, 114, 116, 101, 100]) 47), (.builtin PySem.W.SL.s15201008993051130160x6)⟩ : DictEntry) :: (⟨PyData.keyHash P (Str.mk #[115, 117, 109]), (.str (Str.mk #[115, 117, 109]) 48), (.builtin PySem.W.SL.s741896355592496720x3)⟩ : DictEntry) :: r
noncomputable def o0_e_c8 (P : Params) (r : List DictEntry) : List DictEntry := (⟨PyData.keyHash P (Str.mk #[118, 97, 114, 115]), (.str (Str.mk #[118, 97, 114, 115]) 49), (.builtin PySem.W.SL.s17925004256654032244x4)⟩ : DictEntry) :: (⟨PyData.keyHash P (Str.mk #[78, 111, 110, 101]), (.str (Str.mk #[78, 111, 110, 101]) 50), .none⟩ : DictEntry) :: (⟨PyData.keyHash P (Str.mk #[69, 108, 108, 105, 112, 115, 105, 115]), (.str (Str.mk #[69, 108, 108, 105, 112, 115, 105, 115]) 51), .ellipsis⟩ : DictEntry) :: (⟨PyData.keyHash P (Str.mk #[78, 111, 116, 73, 109, 112, 108, 101, 109, 101, 110, 116, 101, 100]), (.str (Str.mk #[78, 111, 116, 73, 109, 112, 108, 101, 109, 101, 110, 116, 101, 100]) 52), .notImplemented⟩ : DictEntry) :: (⟨PyData.keyHash P (Str.mk #[70, 97, 108, 115, 101]), (.str (Str.mk #[70, 97, 108, 115, 101]) 53), (.bool false)⟩ : DictEntry) :: (⟨PyData.keyHash P (Str.mk #[84, 114, 117, 101]), (.str (Str.mk #[84, 114, 117, 101]) 54), (.bool true)⟩ : DictEntry) :: r
noncomputable def o0_e_c9 (P : Params) (r : List DictEntry) : List DictEntry := (⟨PyData.keyHash P (Str.mk #[98, 111, 111, 108]), (.str (Str.mk #[98, 111, 111, 108]) 55), (.type PySem.W.SL.s11695548795398191787x4)⟩ : DictEntry) :: (⟨PyData.keyHash P (Str.mk #[109, 101, 109, 111, 114, 121, 118, 105, 101, 119]), (.str (Str.mk #[109, 101, 109, 111, 114, 121, 118, 105, 101, 119]) 56), (.type PySem.W.SL.s4156966113859768872x10)⟩ : DictEntry) :: (⟨PyData.keyHash P (Str.mk #[98, 121, 116, 101, 97, 114, 114, 97, 121]), (.str (Str.mk #[98, 121, 116, 101, 97, 114, 114, 97, 121]) 57), (.type PySem.W.SL.s9501651726347032510x9)⟩ : DictEntry) :: (⟨PyData.keyHash P (Str.mk #[98, 121, 116, 101, 115]), (.str (Str.mk #[98, 121, 116, 101, 115]) 58), (.type PySem.W.SL.s15722918466584999320x5)⟩ : DictEntry) :: (⟨PyData.keyHash P (Str.mk #[99, 108, 97, 115, 115, 109, 101, 116, 104, 111, 100]), (.str (Str.mk #[99, 108, 97, 115, 115, 109, 101, 116, 104, 111, 100]) 59), (.type PySem.W.SL.s591115383303110208x11)⟩ : DictEntry) :: (⟨PyData.keyHash P (Str.mk #[99, 111, 109, 112, 108, 101, 120]), (.str (Str.mk #[99, 111, 109, 112, 108, 101, 120]) 60), (.type PySem.W.SL.s15721156781594690315x7)⟩ : DictEntry) :: r
noncomputable def o0_e_c10 (P : Params) (r : List DictEntry) : List DictEntry := (⟨PyData.keyHash P (Str.mk #[100, 105, 99, 116]), (.str (Str.mk #[100, 105, 99, 116]) 61), (.type PySem.W.SL.s14018661285674007319x4)⟩ : DictEntry) :: (⟨PyData.keyHash P (Str.mk #[101, 110, 117, 109, 101, 114, 97, 116, 101]), (.str (Str.mk #[101, 110, 117, 109, 101, 114, 97, 116, 101]) 62), (.type PySem.W.SL.s14340494229221121180x9)⟩ : DictEntry) :: (⟨PyData.keyHash P (Str.mk #[102, 105, 108, 116, 101, 114]), (.str (Str.mk #[102, 105, 108, 116, 101, 114]) 63), (.type PySem.W.SL.s13429844117177748173x6)⟩ : DictEntry) :: (⟨PyData.keyHash P (Str.mk #[102, 108, 111, 97, 116]), (.str (Str.mk #[102, 108, 111, 97, 116]) 64), (.type PySem.W.SL.s16463266125957815391x5)⟩ : DictEntry) :: (⟨PyData.keyHash P (Str.mk #[102, 114, 111, 122, 101, 110, 115, 101, 116]), (.str (Str.mk #[102, 114, 111, 122, 101, 110, 115, 101, 116]) 65), (.type PySem.W.SL.s4922535414793169389x9)⟩ : DictEntry) :: (⟨PyData.keyHash P (Str.mk #[112, 114, 111, 112, 101, 114, 116, 121]), (.str (Str.mk #[112, 114, 111, 112, 101, 114, 116, 121]) 66), (.type PySem.W.SL.s8101838861749082086x8)⟩ : DictEntry) :: r
noncomputable def o0_e_c11 (P : Params) (r : List DictEntry) : List DictEntry := (⟨PyData.keyHash P (Str.mk #[105, 110, 116]), (.str (Str.mk #[105, 110, 116]) 67), (.type PySem.W.SL.s7066276694103001551x3)⟩ : DictEntry) :: (⟨PyData.keyHash P (Str.mk #[108, 105, 115, 116]), (.str (Str.mk #[108, 105, 115, 116]) 68), (.type PySem.W.SL.s9222952809800978799x4)⟩ : DictEntry) :: (⟨PyData.keyHash P (Str.mk #[109, 97, 112]), (.str (Str.mk #[109, 97, 112]) 69), (.type PySem.W.SL.s462964344163437139x3)⟩ : DictEntry) :: (⟨PyData.keyHash P (Str.mk #[111, 98, 106, 101, 99, 116]), (.str (Str.mk #[111, 98, 106, 101, 99, 116]) 70), (.type PySem.W.SL.s2742458400755230247x6)⟩ : DictEntry) :: (⟨PyData.keyHash P (Str.mk #[114, 97, 110, 103, 101]), (.str (Str.mk #[114, 97, 110, 103, 101]) 71), (.type PySem.W.SL.s1438033511350832697x5)⟩ : DictEntry) :: (⟨PyData.keyHash P (Str.mk #[114, 101, 118, 101, 114, 115, 101, 100]), (.str (Str.mk #[114, 101, 118, 101, 114, 115, 101, 100]) 72), (.type PySem.W.SL.s14365286008749172514x8)⟩ : DictEntry) :: r
noncomputable def o0_e_c12 (P : Params) (r : List DictEntry) : List DictEntry := (⟨PyData.keyHash P (Str.mk #[115, 101, 116]), (.str (Str.mk #[115, 101, 116]) 73), (.type PySem.W.SL.s3642769012341782148x3)⟩ : DictEntry) :: (⟨PyData.keyHash P (Str.mk #[115, 108, 105, 99, 101]), (.str (Str.mk #[115, 108, 105, 99, 101]) 74), (.type PySem.W.SL.s4674234679698826739x5)⟩ : DictEntry) :: (⟨PyData.keyHash P (Str.mk #[115, 116, 97, 116, 105, 99, 109, 101, 116, 104, 111, 100]), (.str (Str.mk #[115, 116, 97, 116, 105, 99, 109, 101, 116, 104, 111, 100]) 75), (.type PySem.W.SL.s16656946322747308186x12)⟩ : DictEntry) :: (⟨PyData.keyHash P (Str.mk #[115, 116, 114]), (.str (Str.mk #[115, 116, 114]) 76), (.type PySem.W.SL.s10796804682411823810x3)⟩ : DictEntry) :: (⟨PyData.keyHash P (Str.mk #[115, 117, 112, 101, 114]), (.str (Str.mk #[115, 117, 112, 101, 114]) 77), (.type PySem.W.SL.s4290257624100764138x5)⟩ : DictEntry) :: (⟨PyData.keyHash P (Str.mk #[116, 117, 112, 108, 101]), (.str (Str.mk #[116, 117, 112, 108, 101]) 78), (.type PySem.W.SL.s2766695959194262286x5)⟩ : DictEntry) :: r
noncomputable def o0_e_c13 (P : Params) (r : List DictEntry) : List DictEntry := (⟨PyData.keyHash P (Str.mk #[116, 121, 112, 101]), (.str (Str.mk #[116, 121, 112, 101]) 79), (.type PySem.W.SL.s17162191345867700912x4)⟩ : DictEntry) :: (⟨PyData.keyHash P (Str.mk #[122, 105, 112]), (.str (Str.mk #[122, 105, 112]) 80), (.type PySem.W.SL.s14339709457334898076x3)⟩ : DictEntry) :: (⟨PyData.keyHash P (Str.mk #[95, 95, 100, 101, 98, 117, 103, 95, 95]), (.str (Str.mk #[95, 95, 100, 101, 98, 117, 103, 95, 95]) 81), (.bool true)⟩ : DictEntry) :: (⟨PyData.keyHash P (Str.mk #[66, 97, 115, 101, 69, 120, 99, 101, 112, 116, 105, 111, 110]), (.str (Str.mk #[66, 97, 115, 101, 69, 120, 99, 101, 112, 116, 105, 111, 110]) 82), (.type PySem.W.SL.s4278001404047624695x13)⟩ : DictEntry) :: (⟨PyData.keyHash P (Str.mk #[66, 97, 115, 101, 69, 120, 99, 101, 112, 116, 105, 111, 110, 71, 114, 111, 117, 112]), (.str (Str.mk #[66, 97, 115, 101, 69, 120, 99, 101, 112, 116, 105, 111, 110, 71, 114, 111, 117, 112]) 83), (.type PySem.W.SL.s6585700554429387442x18)⟩ : DictEntry) :: (⟨PyData.keyHash P (Str.mk #[69, 120, 99, 101, 112, 116, 105, 111, 110]), (.str (Str.mk #[69, 120, 99, 101, 112, 116, 105, 111, 110]) 84), (.type PySem.W.SL.s5946037652744460706x9)⟩ : DictEntry) :: r
noncomputable def o0_e_c14 (P : Params) (r : List DictEntry) : List DictEntry := (⟨PyData.keyHash P (Str.mk #[71, 101, 110, 101, 114, 97, 116, 111, 114, 69, 120, 105, 116]), (.str (Str.mk #[71, 101, 110, 101, 114, 97, 116, 111, 114, 69, 120, 105, 116]) 85), (.type PySem.W.SL.s7410770068591931388x13)⟩ : DictEntry) :: (⟨PyData.keyHash P (Str.mk #[75, 101, 121, 98, 111, 97, 114, 100, 73, 110, 116, 101, 114, 114, 117, 112, 116]), (.str (Str.mk #[75, 101, 121, 98, 111, 97, 114, 100, 73, 110, 116, 101, 114, 114, 117, 112, 116]) 86), (.type PySem.W.SL.s11817881795495490833x17)⟩ : DictEntry) :: (⟨PyData.keyHash P (Str.mk #[83, 121, 115, 116, 101, 109, 69, 120, 105, 116]), (.str (Str.mk #[83, 121, 115, 116, 101, 109, 69, 120, 105, 116]) 87), (.type PySem.W.SL.s15679963881808890155x10)⟩ : DictEntry) :: (⟨PyData.keyHash P (Str.mk #[65, 114, 105, 116, 104, 109, 101, 116, 105, 99, 69, 114, 114, 111, 114]), (.str (Str.mk #[65, 114, 105, 116, 104, 109, 101, 116, 105, 99, 69, 114, 114, 111, 114]) 88), (.type PySem.W.SL.s3871700062485845797x15)⟩ : DictEntry) :: (⟨PyData.keyHash P (Str.mk #[65, 115, 115, 101, 114, 116, 105, 111, 110, 69, 114, 114, 111, 114]), (.str (Str.mk #[65, 115, 115, 101, 114, 116, 105, 111, 110, 69, 114, 114, 111, 114]) 89), (.type PySem.W.SL.s7689518266570723881x14)⟩ : DictEntry) :: (⟨PyData.keyHash P (Str.mk #[65, 116, 116, 114, 105, 98, 117, 116, 101, 69, 114, 114, 111, 114]), (.str (Str.mk #[65, 116, 116, 114, 105, 98, 117, 116, 101, 69, 114, 114, 111, 114]) 90), (.type PySem.W.SL.s9001593270443806431x14)⟩ : DictEntry) :: r
noncomputable def o0_e_c15 (P : Params) (r : List DictEntry) : List DictEntry := (⟨PyData.keyHash P (Str.mk #[66, 117, 102, 102, 101, 114, 69, 114, 114, 111, 114]), (.str (Str.mk #[66, 117, 102, 102, 101, 114, 69, 114, 114, 111, 114]) 91), (.type PySem.W.SL.s6882542574934516792x11)⟩ : DictEntry) :: (⟨PyData.keyHash P (Str.mk #[69, 79, 70, 69, 114, 114, 111, 114]), (.str (Str.mk #[69, 79, 70, 69, 114, 114, 111, 114]) 92), (.type PySem.W.SL.s14403400214490484960x8)⟩ : DictEntry) :: (⟨PyData.keyHash P (Str.mk #[73, 109, 112, 111, 114, 116, 69, 114, 114, 111, 114]), (.str (Str.mk #[73, 109, 112, 111, 114, 116, 69, 114, 114, 111, 114]) 93), (.type PySem.W.SL.s14457978657717015782x11)⟩ : DictEntry) :: (⟨PyData.keyHash P (Str.mk #[76, 111, 111, 107, 117, 112, 69, 114, 114, 111, 114]), (.str (Str.mk #[76, 111, 111, 107, 117, 112, 69, 114, 114, 111, 114]) 94), (.type PySem.W.SL.s1753610191782819921x11)⟩ : DictEntry) :: (⟨PyData.keyHash P (Str.mk #[77, 101, 109, 111, 114, 121, 69, 114, 114, 111, 114]), (.str (Str.mk #[77, 101, 109, 111, 114, 121, 69, 114, 114, 111, 114]) 95), (.type PySem.W.SL.s14119380538032626715x11)⟩ : DictEntry) :: (⟨PyData.keyHash P (Str.mk #[78, 97, 109, 101, 69, 114, 114, 111, 114]), (.str (Str.mk #[78, 97, 109, 101, 69, 114, 114, 111, 114]) 96), (.type PySem.W.SL.s11437920000406562045x9)⟩ : DictEntry) :: r
noncomputable def o0_e_c16 (P : Params) (r : List DictEntry) : List DictEntry := (⟨PyData.keyHash P (Str.mk #[79, 83, 69, 114, 114, 111, 114]), (.str (Str.mk #[79, 83, 69, 114, 114, 111, 114]) 97), (.type PySem.W.SL.s10852414792293593619x7)⟩ : DictEntry) :: (⟨PyData.keyHash P (Str.mk #[82, 101, 102, 101, 114, 101, 110, 99, 101, 69, 114, 114, 111, 114]), (.str (Str.mk #[82, 101, 102, 101, 114, 101, 110, 99, 101, 69, 114, 114, 111, 114]) 98), (.type PySem.W.SL.s14816307405966870543x14)⟩ : DictEntry) :: (⟨PyData.keyHash P (Str.mk #[82, 117, 110, 116, 105, 109, 101, 69, 114, 114, 111, 114]), (.str (Str.mk #[82, 117, 110, 116, 105, 109, 101, 69, 114, 114, 111, 114]) 99), (.type PySem.W.SL.s8682627914449686677x12)⟩ : DictEntry) :: (⟨PyData.keyHash P (Str.mk #[83, 116, 111, 112, 65, 115, 121, 110, 99, 73, 116, 101, 114, 97, 116, 105, 111, 110]), (.str (Str.mk #[83, 116, 111, 112, 65, 115, 121, 110, 99, 73, 116, 101, 114, 97, 116, 105, 111, 110]) 100), (.type PySem.W.SL.s4428170145600203450x18)⟩ : DictEntry) :: (⟨PyData.keyHash P (Str.mk #[83, 116, 111, 112, 73, 116, 101, 114, 97, 116, 105, 111, 110]), (.str (Str.mk #[83, 116, 111, 112, 73, 116, 101, 114, 97, 116, 105, 111, 110]) 101), (.type PySem.W.SL.s5991306692159431302x13)⟩ : DictEntry) :: (⟨PyData.keyHash P (Str.mk #[83, 121, 110, 116, 97, 120, 69, 114, 114, 111, 114]), (.str (Str.mk #[83, 121, 110, 116, 97, 120, 69, 114, 114, 111, 114]) 102), (.type PySem.W.SL.s16067994140765818257x11)⟩ : DictEntry) :: r
noncomputable def o0_e_c17 (P : Params) (r : List DictEntry) : List DictEntry := (⟨PyData.keyHash P (Str.mk #[83, 121, 115, 116, 101, 109, 69, 114, 114, 111, 114]), (.str (Str.mk #[83, 121, 115, 116, 101, 109, 69, 114, 114, 111, 114]) 103), (.type PySem.W.SL.s2327743974964600596x11)⟩ : DictEntry) :: (⟨PyData.keyHash P (Str.mk #[84, 121, 112, 101, 69, 114, 114, 111, 114]), (.str (Str.mk #[84, 121, 112, 101, 69, 114, 114, 111, 114]) 104), (.type PySem.W.SL.s2804747833354056582x9)⟩ : DictEntry) :: (⟨PyData.keyHash P (Str.mk #[86, 97, 108, 117, 101, 69, 114, 114, 111, 114]), (.str (Str.mk #[86, 97, 108, 117, 101, 69, 114, 114, 111, 114]) 105), (.type PySem.W.SL.s6070975301684473832x10)⟩ : DictEntry) :: (⟨PyData.keyHash P (Str.mk #[87, 97, 114, 110, 105, 110, 103]), (.str (Str.mk #[87, 97, 114, 110, 105, 110, 103]) 106), (.type PySem.W.SL.s14270485950484850486x7)⟩ : DictEntry) :: (⟨PyData.keyHash P (Str.mk #[70, 108, 111, 97, 116, 105, 110, 103, 80, 111, 105, 110, 116, 69, 114, 114, 111, 114]), (.str (Str.mk #[70, 108, 111, 97, 116, 105, 110, 103, 80, 111, 105, 110, 116, 69, 114, 114, 111, 114]) 107), (.type PySem.W.SL.s12041534306414923332x18)⟩ : DictEntry) :: (⟨PyData.keyHash P (Str.mk #[79, 118, 101, 114, 102, 108, 111, 119, 69, 114, 114, 111, 114]), (.str (Str.mk #[79, 118, 101, 114, 102, 108, 111, 119, 69, 114, 114, 111, 114]) 108), (.type PySem.W.SL.s2531307568338490285x13)⟩ : DictEntry) :: r
noncomputable def o0_e_c18 (P : Params) (r : List DictEntry) : List DictEntry := (⟨PyData.keyHash P (Str.mk #[90, 101, 114, 111, 68, 105, 118, 105, 115, 105, 111, 110, 69, 114, 114, 111, 114]), (.str (Str.mk #[90, 101, 114, 111, 68, 105, 118, 105, 115, 105, 111, 110, 69, 114, 114, 111, 114]) 109), (.type PySem.W.SL.s631175304937289666x17)⟩ : DictEntry) :: (⟨PyData.keyHash P (Str.mk #[66, 121, 116, 101, 115, 87, 97, 114, 110, 105, 110, 103]), (.str (Str.mk #[66, 121, 116, 101, 115, 87, 97, 114, 110, 105, 110, 103]) 110), (.type PySem.W.SL.s5144983644357021410x12)⟩ : DictEntry) :: (⟨PyData.keyHash P (Str.mk #[68, 101, 112, 114, 101, 99, 97, 116, 105, 111, 110, 87, 97, 114, 110, 105, 110, 103]), (.str (Str.mk #[68, 101, 112, 114, 101, 99, 97, 116, 105, 111, 110, 87, 97, 114, 110, 105, 110, 103]) 111), (.type PySem.W.SL.s18039099521571816885x18)⟩ : DictEntry) :: (⟨PyData.keyHash P (Str.mk #[69, 110, 99, 111, 100, 105, 110, 103, 87, 97, 114, 110, 105, 110, 103]), (.str (Str.mk #[69, 110, 99, 111, 100, 105, 110, 103, 87, 97, 114, 110, 105, 110, 103]) 112), (.type PySem.W.SL.s6011586214260557989x15)⟩ : DictEntry) :: (⟨PyData.keyHash P (Str.mk #[70, 117, 116, 117, 114, 101, 87, 97, 114, 110, 105, 110, 103]), (.str (Str.mk #[70, 117, 116, 117, 114, 101, 87, 97, 114, 110, 105, 110, 103]) 113), (.type PySem.W.SL.s5430567037509283100x13)⟩ : DictEntry) :: (⟨PyData.keyHash P (Str.mk #[73, 109, 112, 111, 114, 116, 87, 97, 114, 110, 105, 110, 103]), (.str (Str.mk #[73, 109, 112, 111, 114, 116, 87, 97, 114, 110, 105, 110, 103]) 114), (.type PySem.W.SL.s8117915138073963741x13)⟩ : DictEntry) :: r
noncomputable def o0_e_c19 (P : Params) (r : List DictEntry) : List DictEntry := (⟨PyData.keyHash P (Str.mk #[80, 101, 110, 100, 105, 110, 103, 68, 101, 112, 114, 101, 99, 97, 116, 105, 111, 110, 87, 97, 114, 110, 105, 110, 103]), (.str (Str.mk #[80, 101, 110, 100, 105, 110, 103, 68, 101, 112, 114, 101, 99, 97, 116, 105, 111, 110, 87, 97, 114, 110, 105, 110, 103]) 115), (.type PySem.W.SL.s3423317712779056401x25)⟩ : DictEntry) :: (⟨PyData.keyHash P (Str.mk #[82, 101, 115, 111, 117, 114, 99, 101, 87, 97, 114, 110, 105, 110, 103]), (.str (Str.mk #[82, 101, 115, 111, 117, 114, 99, 101, 87, 97, 114, 110, 105, 110, 103]) 116), (.type PySem.W.SL.s2007317383269046180x15)⟩ : DictEntry) :: (⟨PyData.keyHash P (Str.mk #[82, 117, 110, 116, 105, 109, 101, 87, 97, 114, 110, 105, 110, 103]), (.str (Str.mk #[82, 117, 110, 116, 105, 109, 101, 87, 97, 114, 110, 105, 110, 103]) 117), (.type PySem.W.SL.s17481586968713580700x14)⟩ : DictEntry) :: (⟨PyData.keyHash P (Str.mk #[83, 121, 110, 116, 97, 120, 87, 97, 114, 110, 105, 110, 103]), (.str (Str.mk #[83, 121, 110, 116, 97, 120, 87, 97, 114, 110, 105, 110, 103]) 118), (.type PySem.W.SL.s2450899226349176912x13)⟩ : DictEntry) :: (⟨PyData.keyHash P (Str.mk #[85, 110, 105, 99, 111, 100, 101, 87, 97, 114, 110, 105, 110, 103]), (.str (Str.mk #[85, 110, 105, 99, 111, 100, 101, 87, 97, 114, 110, 105, 110, 103]) 119), (.type PySem.W.SL.s16626165730633575011x14)⟩ : DictEntry) :: (⟨PyData.keyHash P (Str.mk #[85, 115, 101, 114, 87, 97, 114, 110, 105, 110, 103]), (.str (Str.mk #[85, 115, 101, 114, 87, 97, 114, 110, 105, 110, 103]) 120), (.type PySem.W.SL.s14288496050688921416x11)⟩ : DictEntry) :: r
noncomputable def o0_e_c20 (P : Params) (r : List DictEntry) : List DictEntry := (⟨PyData.keyHash P (Str.mk #[66, 108, 111, 99, 107, 105, 110, 103, 73, 79, 69, 114, 114, 111, 114]), (.str (Str.mk #[66, 108, 111, 99, 107, 105, 110, 103, 73, 79, 69, 114, 114, 111, 114]) 121), (.type PySem.W.SL.s5735081916595925998x15)⟩ : DictEntry) :: (⟨PyData.keyHash P (Str.mk #[67, 104, 105, 108, 100, 80, 114, 111, 99, 101, 115, 115, 69, 114, 114, 111, 114]), (.str (Str.mk #[67, 104, 105, 108, 100, 80, 114, 111, 99, 101, 115, 115, 69, 114, 114, 111, 114]) 122), (.type PySem.W.SL.s3865607918536308442x17)⟩ : DictEntry) :: (⟨PyData.keyHash P (Str.mk #[67, 111, 110, 110, 101, 99, 116, 105, 111, 110, 69, 114, 114, 111, 114]), (.str (Str.mk #[67, 111, 110, 110, 101, 99, 116, 105, 111, 110, 69, 114, 114, 111, 114]) 123), (.type PySem.W.SL.s13337502604062700212x15)⟩ : DictEntry) :: (⟨PyData.keyHash P (Str.mk #[70, 105, 108, 101, 69, 120, 105, 115, 116, 115, 69, 114, 114, 111, 114]), (.str (Str.mk #[70, 105, 108, 101, 69, 120, 105, 115, 116, 115, 69, 114, 114, 111, 114]) 124), (.type PySem.W.SL.s13114017843053701147x15)⟩ : DictEntry) :: (⟨PyData.keyHash P (Str.mk #[70, 105, 108, 101, 78, 111, 116, 70, 111, 117, 110, 100, 69, 114, 114, 111, 114]), (.str (Str.mk #[70, 105, 108, 101, 78, 111, 116, 70, 111, 117, 110, 100, 69, 114, 114, 111, 114]) 125), (.type PySem.W.SL.s17467278006356818441x17)⟩ : DictEntry) :: (⟨PyData.keyHash P (Str.mk #[73, 110, 116, 101, 114, 114, 117, 112, 116, 101, 100, 69, 114, 114, 111, 114]), (.str (Str.mk #[73, 110, 116, 101, 114, 114, 117, 112, 116, 101, 100, 69, 114, 114, 111, 114]) 126), (.type PySem.W.SL.s17722149559621369488x16)⟩ : DictEntry) :: r
noncomputable def o0_e_c21 (P : Params) (r : List DictEntry) : List DictEntry := (⟨PyData.keyHash P (Str.mk #[73, 115, 65, 68, 105, 114, 101, 99, 116, 111, 114, 121, 69, 114, 114, 111, 114]), (.str (Str.mk #[73, 115, 65, 68, 105, 114, 101, 99, 116, 111, 114, 121, 69, 114, 114, 111, 114]) 127), (.type PySem.W.SL.s7855274175708717672x17)⟩ : DictEntry) :: (⟨PyData.keyHash P (Str.mk #[78, 111, 116, 65, 68, 105, 114, 101, 99, 116, 111, 114, 121, 69, 114, 114, 111, 114]), (.str (Str.mk #[78, 111, 116, 65, 68, 105, 114, 101, 99, 116, 111, 114, 121, 69, 114, 114, 111, 114]) 128), (.type PySem.W.SL.s13351283678309829046x18)⟩ : DictEntry) :: (⟨PyData.keyHash P (Str.mk #[80, 101, 114, 109, 105, 115, 115, 105, 111, 110, 69, 114, 114, 111, 114]), (.str (Str.mk #[80, 101, 114, 109, 105, 115, 115, 105, 111, 110, 69, 114, 114, 111, 114]) 129), (.type PySem.W.SL.s6668348653404991179x15)⟩ : DictEntry) :: (⟨PyData.keyHash P (Str.mk #[80, 114, 111, 99, 101, 115, 115, 76, 111, 111, 107, 117, 112, 69, 114, 114, 111, 114]), (.str (Str.mk #[80, 114, 111, 99, 101, 115, 115, 76, 111, 111, 107, 117, 112, 69, 114, 114, 111, 114]) 130), (.type PySem.W.SL.s12913350958174193794x18)⟩ : DictEntry) :: (⟨PyData.keyHash P (Str.mk #[84, 105, 109, 101, 111, 117, 116, 69, 114, 114, 111, 114]), (.str (Str.mk #[84, 105, 109, 101, 111, 117, 116, 69, 114, 114, 111, 114]) 131), (.type PySem.W.SL.s16115879512475548326x12)⟩ : DictEntry) :: (⟨PyData.keyHash P (Str.mk #[73, 110, 100, 101, 110, 116, 97, 116, 105, 111, 110, 69, 114, 114, 111, 114]), (.str (Str.mk #[73, 110, 100, 101, 110, 116, 97, 116, 105, 111, 110, 69, 114, 114, 111, 114]) 132), (.type PySem.W.SL.s15920661018069861047x16)⟩ : DictEntry) :: r
noncomputable def o0_e_c22 (P : Params) (r : List DictEntry) : List DictEntry := (⟨PyData.keyHash P (Str.mk #[95, 73, 110, 99, 111, 109, 112, 108, 101, 116, 101, 73, 110, 112, 117, 116, 69, 114, 114, 111, 114]), (.str (Str.mk #[95, 73, 110, 99, 111, 109, 112, 108, 101, 116, 101, 73, 110, 112, 117, 116, 69, 114, 114, 111, 114]) 133), (.type PySem.W.SL.s10779130036587390575x21)⟩ : DictEntry) :: (⟨PyData.keyHash P (Str.mk #[73, 110, 100, 101, 120, 69, 114, 114, 111, 114]), (.str (Str.mk #[73, 110, 100, 101, 120, 69, 114, 114, 111, 114]) 134), (.type PySem.W.SL.s7801419657504700863x10)⟩ : DictEntry) :: (⟨PyData.keyHash P (Str.mk #[75, 101, 121, 69, 114, 114, 111, 114]), (.str (Str.mk #[75, 101, 121, 69, 114, 114, 111, 114]) 135), (.type PySem.W.SL.s1688129525768580628x8)⟩ : DictEntry) :: (⟨PyData.keyHash P (Str.mk #[77, 111, 100, 117, 108, 101, 78, 111, 116, 70, 111, 117, 110, 100, 69, 114, 114, 111, 114]), (.str (Str.mk #[77, 111, 100, 117, 108, 101, 78, 111, 116, 70, 111, 117, 110, 100, 69, 114, 114, 111, 114]) 136), (.type PySem.W.SL.s1031832959479892071x19)⟩ : DictEntry) :: (⟨PyData.keyHash P (Str.mk #[78, 111, 116, 73, 109, 112, 108, 101, 109, 101, 110, 116, 101, 100, 69, 114, 114, 111, 114]), (.str (Str.mk #[78, 111, 116, 73, 109, 112, 108, 101, 109, 101, 110, 116, 101, 100, 69, 114, 114, 111, 114]) 137), (.type PySem.W.SL.s8991790508128307865x19)⟩ : DictEntry) :: (⟨PyData.keyHash P (Str.mk #[80, 121, 116, 104, 111, 110, 70, 105, 110, 97, 108, 105, 122, 97, 116, 105, 111, 110, 69, 114, 114, 111, 114]), (.str (Str.mk #[80, 121, 116, 104, 111, 110, 70, 105, 110, 97, 108, 105, 122, 97, 116, 105, 111, 110, 69, 114, 114, 111, 114]) 138), (.type PySem.W.SL.s14539662485746970245x23)⟩ : DictEntry) :: r
noncomputable def o0_e_c23 (P : Params) (r : List DictEntry) : List DictEntry := (⟨PyData.keyHash P (Str.mk #[82, 101, 99, 117, 114, 115, 105, 111, 110, 69, 114, 114, 111, 114]), (.str (Str.mk #[82, 101, 99, 117, 114, 115, 105, 111, 110, 69, 114, 114, 111, 114]) 139), (.type PySem.W.SL.s11643622729373238714x14)⟩ : DictEntry) :: (⟨PyData.keyHash P (Str.mk #[85, 110, 98, 111, 117, 110, 100, 76, 111, 99, 97, 108, 69, 114, 114, 111, 114]), (.str (Str.mk #[85, 110, 98, 111, 117, 110, 100, 76, 111, 99, 97, 108, 69, 114, 114, 111, 114]) 140), (.type PySem.W.SL.s3386828779285465597x17)⟩ : DictEntry) :: (⟨PyData.keyHash P (Str.mk #[85, 110, 105, 99, 111, 100, 101, 69, 114, 114, 111, 114]), (.str (Str.mk #[85, 110, 105, 99, 111, 100, 101, 69, 114, 114, 111, 114]) 141), (.type PySem.W.SL.s13042696260734638735x12)⟩ : DictEntry) :: (⟨PyData.keyHash P (Str.mk #[66, 114, 111, 107, 101, 110, 80, 105, 112, 101, 69, 114, 114, 111, 114]), (.str (Str.mk #[66, 114, 111, 107, 101, 110, 80, 105, 112, 101, 69, 114, 114, 111, 114]) 142), (.type PySem.W.SL.s18239426817015966623x15)⟩ : DictEntry) :: (⟨PyData.keyHash P (Str.mk #[67, 111, 110, 110, 101, 99, 116, 105, 111, 110, 65, 98, 111, 114, 116, 101, 100, 69, 114, 114, 111, 114]), (.str (Str.mk #[67, 111, 110, 110, 101, 99, 116, 105, 111, 110, 65, 98, 111, 114, 116, 101, 100, 69, 114, 114, 111, 114]) 143), (.type PySem.W.SL.s1270395311379034370x22)⟩ : DictEntry) :: (⟨PyData.keyHash P (Str.mk #[67, 111, 110, 110, 101, 99, 116, 105, 111, 110, 82, 101, 102, 117, 115, 101, 100, 69, 114, 114, 111, 114]), (.str (Str.mk #[67, 111, 110, 110, 101, 99, 116, 105, 111, 110, 82, 101, 102, 117, 115, 101, 100, 69, 114, 114, 111, 114]) 144), (.type PySem.W.SL.s10696252587037064777x22)⟩ : DictEntry) :: r
noncomputable def o0_e_c24 (P : Params) (r : List DictEntry) : List DictEntry := (⟨PyData.keyHash P (Str.mk #[67, 111, 110, 110, 101, 99, 116, 105, 111, 110, 82, 101, 115, 101, 116, 69, 114, 114, 111, 114]), (.str (Str.mk #[67, 111, 110, 110, 101, 99, 116, 105, 111, 110, 82, 101, 115, 101, 116, 69, 114, 114, 111, 114]) 145), (.type PySem.W.SL.s7852717498200857586x20)⟩ : DictEntry) :: (⟨PyData.keyHash P (Str.mk #[84, 97, 98, 69, 114, 114, 111, 114]), (.str (Str.mk #[84, 97, 98, 69, 114, 114, 111, 114]) 146), (.type PySem.W.SL.s6377248116197321094x8)⟩ : DictEntry) :: (⟨PyData.keyHash P (Str.mk #[85, 110, 105, 99, 111, 100, 101, 68, 101, 99, 111, 100, 101, 69, 114, 114, 111, 114]), (.str (Str.mk #[85, 110, 105, 99, 111, 100, 101, 68, 101, 99, 111, 100, 101, 69, 114, 114, 111, 114]) 147), (.type PySem.W.SL.s3834378056692298002x18)⟩ : DictEntry) :: (⟨PyData.keyHash P (Str.mk #[85, 110, 105, 99, 111, 100, 101, 69, 110, 99, 111, 100, 101, 69, 114, 114, 111, 114]), (.str (Str.mk #[85, 110, 105, 99, 111, 100, 101, 69, 110, 99, 111, 100, 101, 69, 114, 114, 111, 114]) 148), (.type PySem.W.SL.s17586630440231065808x18)⟩ : DictEntry) :: (⟨PyData.keyHash P (Str.mk #[85, 110, 105, 99, 111, 100, 101, 84, 114, 97, 110, 115, 108, 97, 116, 101, 69, 114, 114, 111, 114]), (.str (Str.mk #[85, 110, 105, 99, 111, 100, 101, 84, 114, 97, 110, 115, 108, 97, 116, 101, 69, 114, 114, 111, 114]) 149), (.type PySem.W.SL.s15234114252648025395x21)⟩ : DictEntry) :: (⟨PyData.keyHash P (Str.mk #[69, 120, 99, 101, 112, 116, 105, 111, 110, 71, 114, 111, 117, 112]), (.str (Str.mk #[69, 120, 99, 101, 112, 116, 105, 111, 110, 71, 114, 111, 117, 112]) 150), (.type PySem.W.SL.s8496462677383758984x14)⟩ : DictEntry) :: r
noncomputable def o0_e_c25 (P : Params) (r : List DictEntry) : List DictEntry := (⟨PyData.keyHash P (Str.mk #[69, 110, 118, 105, 114, 111, 110, 109, 101, 110, 116, 69, 114, 114, 111, 114]), (.str (Str.mk #[69, 110, 118, 105, 114, 111, 110, 109, 101, 110, 116, 69, 114, 114, 111, 114]) 151), (.type PySem.W.SL.s10852414792293593619x7)⟩ : DictEntry) :: (⟨PyData.keyHash P (Str.mk #[73, 79, 69, 114, 114, 111, 114]), (.str (Str.mk #[73, 79, 69, 114, 114, 111, 114]) 152), (.type PySem.W.SL.s10852414792293593619x7)⟩ : DictEntry) :: (⟨PyData.keyHash P (Str.mk #[111, 112, 101, 110]), (.str (Str.mk #[111, 112, 101, 110]) 153), (.builtin PySem.W.SL.s16789243406116112673x4)⟩ : DictEntry) :: (⟨PyData.keyHash P (Str.mk #[113, 117, 105, 116]), (.str (Str.mk #[113, 117, 105, 116]) 154), (.builtin PySem.W.SL.s14400166428656793546x20)⟩ : DictEntry) :: (⟨PyData.keyHash P (Str.mk #[101, 120, 105, 116]), (.str (Str.mk #[101, 120, 105, 116]) 155), (.builtin PySem.W.SL.s5857708277339239366x20)⟩ : DictEntry) :: (⟨PyData.keyHash P (Str.mk #[99, 111, 112, 121, 114, 105, 103, 104, 116]), (.str (Str.mk #[99, 111, 112, 121, 114, 105, 103, 104, 116]) 156), (.builtin "builtins.copyright#opaque")⟩ : DictEntry) :: r
noncomputable def o0_e_c26 (P : Params) (r : List DictEntry) : List DictEntry := (⟨PyData.keyHash P (Str.mk #[99, 114, 101, 100, 105, 116, 115]), (.str (Str.mk #[99, 114, 101, 100, 105, 116, 115]) 157), (.builtin "builtins.credits#opaque")⟩ : DictEntry) :: (⟨PyData.keyHash P (Str.mk #[108, 105, 99, 101, 110, 115, 101]), (.str (Str.mk #[108, 105, 99, 101, 110, 115, 101]) 158), (.builtin "builtins.license#opaque")⟩ : DictEntry) :: (⟨PyData.keyHash P (Str.mk #[104, 101, 108, 112]), (.str (Str.mk #[104, 101, 108, 112]) 159), (.builtin PySem.W.SL.s7804999707787243718x20)⟩ : DictEntry) :: r
noncomputable def o0_e (P : Params) : Obj := ⟨(.type PySem.W.SL.s14018661285674007319x4), none, (.dict ⟨(o0_e_c0 P (o0_e_c1 P (o0_e_c2 P (o0_e_c3 P (o0_e_c4 P (o0_e_c5 P (o0_e_c6 P (o0_e_c7 P (o0_e_c8 P (o0_e_c9 P (o0_e_c10 P (o0_e_c11 P (o0_e_c12 P (o0_e_c13 P (o0_e_c14 P (o0_e_c15 P (o0_e_c16 P (o0_e_c17 P (o0_e_c18 P (o0_e_c19 P (o0_e_c20 P (o0_e_c21 P (o0_e_c22 P (o0_e_c23 P (o0_e_c24 P (o0_e_c25 P (o0_e_c26 P [])))))))))))))))))))))))))))⟩ 159), #[]⟩
noncomputable def o1_e (P : Params) : Obj := ⟨(.type PySem.W.SL.s14018661285674007319x4), none, (.dict #[⟨PyData.keyHash P (Str.mk #[98, 117, 105, 108, 116, 105, 110, 115]), (.str (Str.mk #[98, 117, 105, 108, 116, 105, 110, 115]) 162), (.ref 4)⟩, ⟨PyData.keyHash P (Str.mk #[95, 95, 109, 97, 105, 110, 95, 95]), (.str (Str.mk #[95, 95, 109, 97, 105, 110, 95, 95]) 163), (.ref 5)⟩, ⟨PyData.keyHash P (Str.mk #[95, 115, 114, 101]), (.str (Str.mk #[95, 115, 114, 101]) 244), (.ref 12)⟩] 3), #[]⟩
noncomputable def o2_e (P : Params) : Obj := ⟨.none, none, (.dict #[⟨PyData.keyHash P (Str.mk #[105, 109, 112, 111, 114, 116, 46, 108, 111, 97, 100, 101, 100, 46, 95, 115, 114, 101]), (.str (Str.mk #[105, 109, 112, 111, 114, 116, 46, 108, 111, 97, 100, 101, 100, 46, 95, 115, 114, 101]) 183), (.bool true)⟩, ⟨PyData.keyHash P (Str.mk #[99, 108, 97, 115, 115, 46, 95, 102, 114, 111, 122, 101, 110, 95, 105, 109, 112, 111, 114, 116, 108, 105, 98, 46, 66, 117, 105, 108, 116, 105, 110, 73, 109, 112, 111, 114, 116, 101, 114]), (.str (Str.mk #[99, 108, 97, 115, 115, 46, 95, 102, 114, 111, 122, 101, 110, 95, 105, 109, 112, 111, 114, 116, 108, 105, 98, 46, 66, 117, 105, 108, 116, 105, 110, 73, 109, 112, 111, 114, 116, 101, 114]) 185), (.ref 14)⟩, ⟨PyData.keyHash P (Str.mk #[119, 97, 116, 99, 104, 101, 100, 46, 105, 109, 112, 111, 114, 116]), (.str (Str.mk #[119, 97, 116, 99, 104, 101, 100, 46, 105, 109, 112, 111, 114, 116]) 206), (.ref 18)⟩, ⟨PyData.keyHash P (Str.mk #[99, 108, 97, 115, 115, 46, 95, 102, 114, 111, 122, 101, 110, 95, 105, 109, 112, 111, 114, 116, 108, 105, 98, 46, 77, 111, 100, 117, 108, 101, 83, 112, 101, 99]), (.str (Str.mk #[99, 108, 97, 115, 115, 46, 95, 102, 114, 111, 122, 101, 110, 95, 105, 109, 112, 111, 114, 116, 108, 105, 98, 46, 77, 111, 100, 117, 108, 101, 83, 112, 101, 99]) 216), (.ref 22)⟩, ⟨PyData.keyHash P (Str.mk #[115, 121, 115, 46, 109, 111, 100, 117, 108, 101, 115, 46, 98, 111, 111, 107, 101, 100, 45, 101, 112, 111, 99, 104]), (.str (Str.mk #[115, 121, 115, 46, 109, 111, 100, 117, 108, 101, 115, 46, 98, 111, 111, 107, 101, 100, 45, 101, 112, 111, 99, 104]) 245), (.int 3 0)⟩, ⟨PyData.keyHash P (Str.mk #[105, 109, 112, 111, 114, 116, 46, 108, 97, 116, 101, 114, 45, 108, 97, 105, 100, 46, 95, 115, 114, 101]), (.str (Str.mk #[105, 109, 112, 111, 114, 116, 46, 108, 97, 116, 101, 114, 45, 108, 97, 105, 100, 46, 95, 115, 114, 101]) 270), (.bool true)⟩, ⟨PyData.keyHash P (Str.mk #[119, 97, 116, 99, 104, 101, 100, 46, 108, 105, 98, 114, 97, 114, 121]), (.str (Str.mk #[119, 97, 116, 99, 104, 101, 100, 46, 108, 105, 98, 114, 97, 114, 121]) 272), (.ref 27)⟩, ⟨PyData.keyHash P (Str.mk #[119, 97, 116, 99, 104, 101, 100, 46, 108, 105, 98, 114, 97, 114, 121, 45, 111, 98, 106, 101, 99, 116, 115]), (.str (Str.mk #[119, 97, 116, 99, 104, 101, 100, 46, 108, 105, 98, 114, 97, 114, 121, 45, 111, 98, 106, 101, 99, 116, 115]) 0), (.str (Str.mk #[12]) 0)⟩, ⟨PyData.keyHash P (Str.mk #[119, 97, 116, 99, 104, 101, 100, 46, 108, 105, 98, 114, 97, 114, 121, 45, 100, 101, 101, 112, 46, 95, 115, 114, 101]), (.str (Str.mk #[119, 97, 116, 99, 104, 101, 100, 46, 108, 105, 98, 114, 97, 114, 121, 45, 100, 101, 101, 112, 46, 95, 115, 114, 101]) 273), (.str (Str.mk #[4, 0, 0, 11, 4, 0, 0, 11, 4, 0, 0, 3, 4, 0, 0, 11, 8, 4, 100, 105, 99, 116, 2]) 0)⟩] 9), #[]⟩
noncomputable def o3_e (P : Params) : Obj := ⟨(.type PySem.W.SL.s14018661285674007319x4), none, (.dict #[⟨PyData.keyHash P (Str.mk #[95, 95, 110, 97, 109, 101, 95, 95]), (.str (Str.mk #[95, 95, 110, 97, 109, 101, 95, 95]) 165), (.str (Str.mk #[95, 95, 109, 97, 105, 110, 95, 95]) 164)⟩, ⟨PyData.keyHash P (Str.mk #[95, 95, 100, 111, 99, 95, 95]), (.str (Str.mk #[95, 95, 100, 111, 99, 95, 95]) 166), .none⟩, ⟨PyData.keyHash P (Str.mk #[95, 95, 112, 97, 99, 107, 97, 103, 101, 95, 95]), (.str (Str.mk #[95, 95, 112, 97, 99, 107, 97, 103, 101, 95, 95]) 167), .none⟩, ⟨PyData.keyHash P (Str.mk #[95, 95, 108, 111, 97, 100, 101, 114, 95, 95]), (.str (Str.mk #[95, 95, 108, 111, 97, 100, 101, 114, 95, 95]) 168), (.builtin PySem.W.SL.s7097527257260152453x26)⟩, ⟨PyData.keyHash P (Str.mk #[95, 95, 115, 112, 101, 99, 95, 95]), (.str (Str.mk #[95, 95, 115, 112, 101, 99, 95, 95]) 169), .none⟩, ⟨PyData.keyHash P (Str.mk #[95, 95, 97, 110, 110, 111, 116, 97, 116, 105, 111, 110, 115, 95, 95]), (.str (Str.mk #[95, 95, 97, 110, 110, 111, 116, 97, 116, 105, 111, 110, 115, 95, 95]) 170), (.ref 6)⟩, ⟨PyData.keyHash P (Str.mk #[95, 95, 98, 117, 105, 108, 116, 105, 110, 115, 95, 95]), (.str (Str.mk #[95, 95, 98, 117, 105, 108, 116, 105, 110, 115, 95, 95]) 171), (.ref 4)⟩, ⟨PyData.keyHash P (Str.mk #[95, 95, 102, 105, 108, 101, 95, 95]), (.str (Str.mk #[95, 95, 102, 105, 108, 101, 95, 95]) 173), (.str (Str.mk #[47, 99, 108, 97, 105, 109, 47, 99, 117, 116, 46, 112, 121]) 172)⟩, ⟨PyData.keyHash P (Str.mk #[95, 95, 99, 97, 99, 104, 101, 100, 95, 95]), (.str (Str.mk #[95, 95, 99, 97, 99, 104, 101, 100, 95, 95]) 174), .none⟩, ⟨PyData.keyHash P (Str.mk #[95, 115, 114, 101]), (.str (Str.mk #[95, 115, 114, 101]) 275), (.ref 12)⟩] 10), #[]⟩
noncomputable def o4_e (P : Params) : Obj := ⟨(.type PySem.W.SL.s6658869562736209489x6), (some 0), .plain, #[]⟩
noncomputable def o5_e (P : Params) : Obj := ⟨(.type PySem.W.SL.s6658869562736209489x6), (some 3), .plain, #[]⟩
noncomputable def o6_e (P : Params) : Obj := ⟨(.type PySem.W.SL.s14018661285674007319x4), none, (.dict #[] 0), #[]⟩
noncomputable def o7_e (P : Params) : Obj := ⟨(.type PySem.W.SL.s2766695959194262286x5), none, (.seq #[] 0), #[]⟩
noncomputable def o8_e (P : Params) : Obj := ⟨.none, none, (.fields #[]), #[]⟩
noncomputable def o9_e (P : Params) : Obj := ⟨(.type PySem.W.SL.s5856160107412720595x4), none, (.fields #[(.str (Str.mk #[60, 109, 111, 100, 117, 108, 101, 62]) 176), (.str (Str.mk #[60, 109, 111, 100, 117, 108, 101, 62]) 177), (.str (Str.mk #[47, 99, 108, 97, 105, 109, 47, 99, 117, 116, 46, 112, 121]) 178), (.int 1 0), (.int 0 0), (.int 0 0), (.int 0 0), (.int 0 0), (.ref 7), (.bool false), (.int 175 0), (.ref 8), .none, .none, .none, .none, (.int 179 0), (.int 1 0), (.str (Str.mk #[47, 99, 108, 97, 105, 109, 47, 99, 117, 116, 46, 112, 121]) 180)]), #[]⟩
noncomputable def o10_e (P : Params) : Obj := ⟨(.type PySem.W.SL.s658472552662922059x5), none, .plain, #[(some (.ref 9)), (some (.ref 3)), (some (.ref 3)), none, (some (.str (Str.mk #[95, 95, 109, 97, 105, 110, 95, 95]) 164)), none, (some (.ref 0))]⟩
noncomputable def o11_e (P : Params) : Obj := ⟨(.type PySem.W.SL.s14018661285674007319x4), none, (.dict #[⟨PyData.keyHash P (Str.mk #[95, 95, 110, 97, 109, 101, 95, 95]), (.str (Str.mk #[95, 95, 110, 97, 109, 101, 95, 95]) 247), (.str (Str.mk #[95, 115, 114, 101]) 246)⟩, ⟨PyData.keyHash P (Str.mk #[95, 95, 100, 111, 99, 95, 95]), (.str (Str.mk #[95, 95, 100, 111, 99, 95, 95]) 248), .none⟩, ⟨PyData.keyHash P (Str.mk #[95, 95, 112, 97, 99, 107, 97, 103, 101, 95, 95]), (.str (Str.mk #[95, 95, 112, 97, 99, 107, 97, 103, 101, 95, 95]) 250), (.str (Str.mk #[]) 249)⟩, ⟨PyData.keyHash P (Str.mk #[95, 95, 108, 111, 97, 100, 101, 114, 95, 95]), (.str (Str.mk #[95, 95, 108, 111, 97, 100, 101, 114, 95, 95]) 251), (.ref 14)⟩, ⟨PyData.keyHash P (Str.mk #[95, 95, 115, 112, 101, 99, 95, 95]), (.str (Str.mk #[95, 95, 115, 112, 101, 99, 95, 95]) 252), (.ref 26)⟩, ⟨PyData.keyHash P (Str.mk #[99, 111, 109, 112, 105, 108, 101]), (.str (Str.mk #[99, 111, 109, 112, 105, 108, 101]) 253), (.builtin PySem.W.SL.s492968859115322481x12)⟩, ⟨PyData.keyHash P (Str.mk #[116, 101, 109, 112, 108, 97, 116, 101]), (.str (Str.mk #[116, 101, 109, 112, 108, 97, 116, 101]) 254), (.builtin PySem.W.SL.s4732307381456220424x13)⟩, ⟨PyData.keyHash P (Str.mk #[103, 101, 116, 99, 111, 100, 101, 115, 105, 122, 101]), (.str (Str.mk #[103, 101, 116, 99, 111, 100, 101, 115, 105, 122, 101]) 255), (.builtin PySem.W.SL.s3100639726926479615x16)⟩, ⟨PyData.keyHash P (Str.mk #[97, 115, 99, 105, 105, 95, 105, 115, 99, 97, 115, 101, 100]), (.str (Str.mk #[97, 115, 99, 105, 105, 95, 105, 115, 99, 97, 115, 101, 100]) 256), (.builtin PySem.W.SL.s1824190863884607803x18)⟩, ⟨PyData.keyHash P (Str.mk #[117, 110, 105, 99, 111, 100, 101, 95, 105, 115, 99, 97, 115, 101, 100]), (.str (Str.mk #[117, 110, 105, 99, 111, 100, 101, 95, 105, 115, 99, 97, 115, 101, 100]) 257), (.builtin PySem.W.SL.s15517275503517908518x20)⟩, ⟨PyData.keyHash P (Str.mk #[97, 115, 99, 105, 105, 95, 116, 111, 108, 111, 119, 101, 114]), (.str (Str.mk #[97, 115, 99, 105, 105, 95, 116, 111, 108, 111, 119, 101, 114]) 258), (.builtin PySem.W.SL.s13462958993096105742x18)⟩, ⟨PyData.keyHash P (Str.mk #[117, 110, 105, 99, 111, 100, 101, 95, 116, 111, 108, 111, 119, 101, 114]), (.str (Str.mk #[117, 110, 105, 99, 111, 100, 101, 95, 116, 111, 108, 111, 119, 101, 114]) 259), (.builtin PySem.W.SL.s7205697838950415266x20)⟩, ⟨PyData.keyHash P (Str.mk #[77, 65, 71, 73, 67]), (.str (Str.mk #[77, 65, 71, 73, 67]) 261), (.int 20230612 260)⟩, ⟨PyData.keyHash P (Str.mk #[67, 79, 68, 69, 83, 73, 90, 69]), (.str (Str.mk #[67, 79, 68, 69, 83, 73, 90, 69]) 263), (.int 4 262)⟩, ⟨PyData.keyHash P (Str.mk #[77, 65, 88, 82, 69, 80, 69, 65, 84]), (.str (Str.mk #[77, 65, 88, 82, 69, 80, 69, 65, 84]) 265), (.int 4294967295 264)⟩, ⟨PyData.keyHash P (Str.mk #[77, 65, 88, 71, 82, 79, 85, 80, 83]), (.str (Str.mk #[77, 65, 88, 71, 82, 79, 85, 80, 83]) 267), (.int 1073741823 266)⟩, ⟨PyData.keyHash P (Str.mk #[99, 111, 112, 121, 114, 105, 103, 104, 116]), (.str (Str.mk #[99, 111, 112, 121, 114, 105, 103, 104, 116]) 269), (.str (Str.mk #[32, 83, 82, 69, 32, 50, 46, 50, 46, 50, 32, 67, 111, 112, 121, 114, 105, 103, 104, 116, 32, 40, 99, 41, 32, 49, 57, 57, 55, 45, 50, 48, 48, 50, 32, 98, 121, 32, 83, 101, 99, 114, 101, 116, 32, 76, 97, 98, 115, 32, 65, 66, 32]) 268)⟩] 17), #[]⟩
noncomputable def o12_e (P : Params) : Obj := ⟨(.type PySem.W.SL.s6658869562736209489x6), (some 11), .plain, #[]⟩
noncomputable def o13_e (P : Params) : Obj := ⟨(.type PySem.W.SL.s14018661285674007319x4), none, (.dict #[⟨PyData.keyHash P (Str.mk #[95, 95, 109, 111, 100, 117, 108, 101, 95, 95]), (.str (Str.mk #[95, 95, 109, 111, 100, 117, 108, 101, 95, 95]) 189), (.str (Str.mk #[95, 102, 114, 111, 122, 101, 110, 95, 105, 109, 112, 111, 114, 116, 108, 105, 98]) 186)⟩, ⟨PyData.keyHash P (Str.mk #[95, 95, 102, 105, 114, 115, 116, 108, 105, 110, 101, 110, 111, 95, 95]), (.str (Str.mk #[95, 95, 102, 105, 114, 115, 116, 108, 105, 110, 101, 110, 111, 95, 95]) 190), (.int 971 187)⟩, ⟨PyData.keyHash P (Str.mk #[95, 95, 100, 111, 99, 95, 95]), (.str (Str.mk #[95, 95, 100, 111, 99, 95, 95]) 191), (.builtin "_frozen_importlib.BuiltinImporter.__doc__:str#opaque")⟩, ⟨PyData.keyHash P (Str.mk #[95, 79, 82, 73, 71, 73, 78]), (.str (Str.mk #[95, 79, 82, 73, 71, 73, 78]) 192), (.str (Str.mk #[98, 117, 105, 108, 116, 45, 105, 110]) 188)⟩, ⟨PyData.keyHash P (Str.mk #[102, 105, 110, 100, 95, 115, 112, 101, 99]), (.str (Str.mk #[102, 105, 110, 100, 95, 115, 112, 101, 99]) 193), (.builtin "_frozen_importlib.BuiltinImporter.find_spec#opaque")⟩, ⟨PyData.keyHash P (Str.mk #[99, 114, 101, 97, 116, 101, 95, 109, 111, 100, 117, 108, 101]), (.str (Str.mk #[99, 114, 101, 97, 116, 101, 95, 109, 111, 100, 117, 108, 101]) 194), (.builtin "_frozen_importlib.BuiltinImporter.create_module#opaque")⟩, ⟨PyData.keyHash P (Str.mk #[101, 120, 101, 99, 95, 109, 111, 100, 117, 108, 101]), (.str (Str.mk #[101, 120, 101, 99, 95, 109, 111, 100, 117, 108, 101]) 195), (.builtin "_frozen_importlib.BuiltinImporter.exec_module#opaque")⟩, ⟨PyData.keyHash P (Str.mk #[103, 101, 116, 95, 99, 111, 100, 101]), (.str (Str.mk #[103, 101, 116, 95, 99, 111, 100, 101]) 196), (.builtin "_frozen_importlib.BuiltinImporter.get_code#opaque")⟩, ⟨PyData.keyHash P (Str.mk #[103, 101, 116, 95, 115, 111, 117, 114, 99, 101]), (.str (Str.mk #[103, 101, 116, 95, 115, 111, 117, 114, 99, 101]) 197), (.builtin "_frozen_importlib.BuiltinImporter.get_source#opaque")⟩, ⟨PyData.keyHash P (Str.mk #[105, 115, 95, 112, 97, 99, 107, 97, 103, 101]), (.str (Str.mk #[105, 115, 95, 112, 97, 99, 107, 97, 103, 101]) 198), (.builtin "_frozen_importlib.BuiltinImporter.is_package#opaque")⟩, ⟨PyData.keyHash P (Str.mk #[108, 111, 97, 100, 95, 109, 111, 100, 117, 108, 101]), (.str (Str.mk #[108, 111, 97, 100, 95, 109, 111, 100, 117, 108, 101]) 199), (.builtin "_frozen_importlib.BuiltinImporter.load_module#opaque")⟩, ⟨PyData.keyHash P (Str.mk #[95, 95, 115, 116, 97, 116, 105, 99, 95, 97, 116, 116, 114, 105, 98, 117, 116, 101, 115, 95, 95]), (.str (Str.mk #[95, 95, 115, 116, 97, 116, 105, 99, 95, 97, 116, 116, 114, 105, 98, 117, 116, 101, 115, 95, 95]) 200), (.ref 15)⟩, ⟨PyData.keyHash P (Str.mk #[95, 95, 100, 105, 99, 116, 95, 95]), (.str (Str.mk #[95, 95, 100, 105, 99, 116, 95, 95]) 202), (.ref 16)⟩, ⟨PyData.keyHash P (Str.mk #[95, 95, 119, 101, 97, 107, 114, 101, 102, 95, 95]), (.str (Str.mk #[95, 95, 119, 101, 97, 107, 114, 101, 102, 95, 95]) 204), (.ref 17)⟩] 14), #[]⟩
noncomputable def o14_e (P : Params) : Obj := ⟨(.type PySem.W.SL.s17162191345867700912x4), none, (.cls ⟨(Str.mk #[66, 117, 105, 108, 116, 105, 110, 73, 109, 112, 111, 114, 116, 101, 114]), [(.type PySem.W.SL.s2742458400755230247x6)], [(.ref 14), (.type PySem.W.SL.s2742458400755230247x6)], 13, (Str.mk #[66, 117, 105, 108, 116, 105, 110, 73, 109, 112, 111, 114, 116, 101, 114]), true, [], [], false, none, false⟩), #[]⟩
noncomputable def o15_e (P : Params) : Obj := ⟨(.type PySem.W.SL.s2766695959194262286x5), none, (.seq #[] 0), #[]⟩
noncomputable def o16_e (P : Params) : Obj := ⟨(.type PySem.W.SL.s14755015743595814543x17), none, (.fields #[(.str (Str.mk #[95, 95, 100, 105, 99, 116, 95, 95]) 201), (.ref 14), (.builtin PySem.W.SL.s6511155373996960695x17), (.builtin PySem.W.SL.s12411053484034534018x21)]), #[]⟩
noncomputable def o17_e (P : Params) : Obj := ⟨(.type PySem.W.SL.s14755015743595814543x17), none, (.fields #[(.str (Str.mk #[95, 95, 119, 101, 97, 107, 114, 101, 102, 95, 95]) 203), (.ref 14), (.builtin PySem.W.SL.s10220274742760427390x26), .none]), #[]⟩
noncomputable def o18_e (P : Params) : Obj := ⟨.none, none, (.seq #[(.int 13 0), (.str (Str.mk #[6, 189, 10, 95, 95, 109, 111, 100, 117, 108, 101, 95, 95, 6, 186, 17, 95, 102, 114, 111, 122, 101, 110, 95, 105, 109, 112, 111, 114, 116, 108, 105, 98, 6, 190, 15, 95, 95, 102, 105, 114, 115, 116, 108, 105, 110, 101, 110, 111, 95, 95, 4, 187, 0, 971, 6, 191, 7, 95, 95, 100, 111, 99, 95, 95, 9, 52, 95, 102, 114, 111, 122, 101, 110, 95, 105, 109, 112, 111, 114, 116, 108, 105, 98, 46, 66, 117, 105, 108, 116, 105, 110, 73, 109, 112, 111, 114, 116, 101, 114, 46, 95, 95, 100, 111, 99, 95, 95, 58, 115, 116, 114, 35, 111, 112, 97, 113, 117, 101, 6, 192, 7, 95, 79, 82, 73, 71, 73, 78, 6, 188, 8, 98, 117, 105, 108, 116, 45, 105, 110, 6, 193, 9, 102, 105, 110, 100, 95, 115, 112, 101, 99, 9, 50, 95, 102, 114, 111, 122, 101, 110, 95, 105, 109, 112, 111, 114, 116, 108, 105, 98, 46, 66, 117, 105, 108, 116, 105, 110, 73, 109, 112, 111, 114, 116, 101, 114, 46, 102, 105, 110, 100, 95, 115, 112, 101, 99, 35, 111, 112, 97, 113, 117, 101, 6, 194, 13, 99, 114, 101, 97, 116, 101, 95, 109, 111, 100, 117, 108, 101, 9, 54, 95, 102, 114, 111, 122, 101, 110, 95, 105, 109, 112, 111, 114, 116, 108, 105, 98, 46, 66, 117, 105, 108, 116, 105, 110, 73, 109, 112, 111, 114, 116, 101, 114, 46, 99, 114, 101, 97, 116, 101, 95, 109, 111, 100, 117, 108, 101, 35, 111, 112, 97, 113, 117, 101, 6, 195, 11, 101, 120, 101, 99, 95, 109, 111, 100, 117, 108, 101, 9, 52, 95, 102, 114, 111, 122, 101, 110, 95, 105, 109, 112, 111, 114, 116, 108, 105, 98, 46, 66, 117, 105, 108, 116, 105, 110, 73, 109, 112, 111, 114, 116, 101, 114, 46, 101, 120, 101, 99, 95, 109, 111, 100, 117, 108, 101, 35, 111, 112, 97, 113, 117, 101, 6, 196, 8, 103, 101, 116, 95, 99, 111, 100, 101, 9, 49, 95, 102, 114, 111, 122, 101, 110, 95, 105, 109, 112, 111, 114, 116, 108, 105, 98, 46, 66, 117, 105, 108, 116, 105, 110, 73, 109, 112, 111, 114, 116, 101, 114, 46, 103, 101, 116, 95, 99, 111, 100, 101, 35, 111, 112, 97, 113, 117, 101, 6, 197, 10, 103, 101, 116, 95, 115, 111, 117, 114, 99, 101, 9, 51, 95, 102, 114, 111, 122, 101, 110, 95, 105, 109, 112, 111, 114, 116, 108, 105, 98, 46, 66, 117, 105, 108, 116, 105, 110, 73, 109, 112, 111, 114, 116, 101, 114, 46, 103, 101, 116, 95, 115, 111, 117, 114, 99, 101, 35, 111, 112, 97, 113, 117, 101, 6, 198, 10, 105, 115, 95, 112, 97, 99, 107, 97, 103, 101, 9, 51, 95, 102, 114, 111, 122, 101, 110, 95, 105, 109, 112, 111, 114, 116, 108, 105, 98, 46, 66, 117, 105, 108, 116, 105, 110, 73, 109, 112, 111, 114, 116, 101, 114, 46, 105, 115, 95, 112, 97, 99, 107, 97, 103, 101, 35, 111, 112, 97, 113, 117, 101, 6, 199, 11, 108, 111, 97, 100, 95, 109, 111, 100, 117, 108, 101, 9, 52, 95, 102, 114, 111, 122, 101, 110, 95, 105, 109, 112, 111, 114, 116, 108, 105, 98, 46, 66, 117, 105, 108, 116, 105, 110, 73, 109, 112, 111, 114, 116, 101, 114, 46, 108, 111, 97, 100, 95, 109, 111, 100, 117, 108, 101, 35, 111, 112, 97, 113, 117, 101, 6, 200, 21, 95, 95, 115, 116, 97, 116, 105, 99, 95, 97, 116, 116, 114, 105, 98, 117, 116, 101, 115, 95, 95, 4, 0, 0, 15, 6, 202, 8, 95, 95, 100, 105, 99, 116, 95, 95, 4, 0, 0, 16, 6, 204, 11, 95, 95, 119, 101, 97, 107, 114, 101, 102, 95, 95, 4, 0, 0, 17]) 0), (.bool true), (.bool true), (.str (Str.mk #[]) 205), (.int 21 0), (.str (Str.mk #[6, 227, 10, 95, 95, 109, 111, 100, 117, 108, 101, 95, 95, 6, 217, 17, 95, 102, 114, 111, 122, 101, 110, 95, 105, 109, 112, 111, 114, 116, 108, 105, 98, 6, 228, 15, 95, 95, 102, 105, 114, 115, 116, 108, 105, 110, 101, 110, 111, 95, 95, 4, 218, 0, 562, 6, 229, 7, 95, 95, 100, 111, 99, 95, 95, 9, 47, 95, 102, 114, 111, 122, 101, 110, 95, 105, 109, 112, 111, 114, 116, 108, 105, 98, 46, 77, 111, 100, 117, 108, 101, 83, 112, 101, 99, 46, 95, 95, 100, 111, 99, 95, 95, 58, 115, 116, 114, 35, 111, 112, 97, 113, 117, 101, 6, 230, 8, 95, 95, 105, 110, 105, 116, 95, 95, 9, 44, 95, 102, 114, 111, 122, 101, 110, 95, 105, 109, 112, 111, 114, 116, 108, 105, 98, 46, 77, 111, 100, 117, 108, 101, 83, 112, 101, 99, 46, 95, 95, 105, 110, 105, 116, 95, 95, 35, 111, 112, 97, 113, 117, 101, 6, 231, 8, 95, 95, 114, 101, 112, 114, 95, 95, 9, 44, 95, 102, 114, 111, 122, 101, 110, 95, 105, 109, 112, 111, 114, 116, 108, 105, 98, 46, 77, 111, 100, 117, 108, 101, 83, 112, 101, 99, 46, 95, 95, 114, 101, 112, 114, 95, 95, 35, 111, 112, 97, 113, 117, 101, 6, 232, 6, 95, 95, 101, 113, 95, 95, 9, 42, 95, 102, 114, 111, 122, 101, 110, 95, 105, 109, 112, 111, 114, 116, 108, 105, 98, 46, 77, 111, 100, 117, 108, 101, 83, 112, 101, 99, 46, 95, 95, 101, 113, 95, 95, 35, 111, 112, 97, 113, 117, 101, 6, 233, 6, 99, 97, 99, 104, 101, 100, 9, 42, 95, 102, 114, 111, 122, 101, 110, 95, 105, 109, 112, 111, 114, 116, 108, 105, 98, 46, 77, 111, 100, 117, 108, 101, 83, 112, 101, 99, 46, 99, 97, 99, 104, 101, 100, 35, 111, 112, 97, 113, 117, 101, 6, 234, 6, 112, 97, 114, 101, 110, 116, 9, 42, 95, 102, 114, 111, 122, 101, 110, 95, 105, 109, 112, 111, 114, 116, 108, 105, 98, 46, 77, 111, 100, 117, 108, 101, 83, 112, 101, 99, 46, 112, 97, 114, 101, 110, 116, 35, 111, 112, 97, 113, 117, 101, 6, 235, 12, 104, 97, 115, 95, 108, 111, 99, 97, 116, 105, 111, 110, 9, 48, 95, 102, 114, 111, 122, 101, 110, 95, 105, 109, 112, 111, 114, 116, 108, 105, 98, 46, 77, 111, 100, 117, 108, 101, 83, 112, 101, 99, 46, 104, 97, 115, 95, 108, 111, 99, 97, 116, 105, 111, 110, 35, 111, 112, 97, 113, 117, 101, 6, 236, 21, 95, 95, 115, 116, 97, 116, 105, 99, 95, 97, 116, 116, 114, 105, 98, 117, 116, 101, 115, 95, 95, 4, 0, 0, 23, 6, 238, 8, 95, 95, 100, 105, 99, 116, 95, 95, 4, 0, 0, 24, 6, 240, 11, 95, 95, 119, 101, 97, 107, 114, 101, 102, 95, 95, 4, 0, 0, 25, 6, 241, 8, 95, 95, 104, 97, 115, 104, 95, 95, 0]) 0), (.bool true), (.bool true), (.str (Str.mk #[]) 242)] 1), #[]⟩
noncomputable def o19_e (P : Params) : Obj := ⟨(.type PySem.W.SL.s9222952809800978799x4), none, (.seq #[] 0), #[]⟩
noncomputable def o20_e (P : Params) : Obj := ⟨(.type PySem.W.SL.s14018661285674007319x4), none, (.dict #[⟨PyData.keyHash P (Str.mk #[110, 97, 109, 101]), (.str (Str.mk #[110, 97, 109, 101]) 208), (.str (Str.mk #[95, 115, 114, 101]) 207)⟩, ⟨PyData.keyHash P (Str.mk #[108, 111, 97, 100, 101, 114]), (.str (Str.mk #[108, 111, 97, 100, 101, 114]) 209), (.ref 14)⟩, ⟨PyData.keyHash P (Str.mk #[111, 114, 105, 103, 105, 110]), (.str (Str.mk #[111, 114, 105, 103, 105, 110]) 210), (.str (Str.mk #[98, 117, 105, 108, 116, 45, 105, 110]) 184)⟩, ⟨PyData.keyHash P (Str.mk #[108, 111, 97, 100, 101, 114, 95, 115, 116, 97, 116, 101]), (.str (Str.mk #[108, 111, 97, 100, 101, 114, 95, 115, 116, 97, 116, 101]) 211), .none⟩, ⟨PyData.keyHash P (Str.mk #[115, 117, 98, 109, 111, 100, 117, 108, 101, 95, 115, 101, 97, 114, 99, 104, 95, 108, 111, 99, 97, 116, 105, 111, 110, 115]), (.str (Str.mk #[115, 117, 98, 109, 111, 100, 117, 108, 101, 95, 115, 101, 97, 114, 99, 104, 95, 108, 111, 99, 97, 116, 105, 111, 110, 115]) 212), .none⟩, ⟨PyData.keyHash P (Str.mk #[95, 117, 110, 105, 110, 105, 116, 105, 97, 108, 105, 122, 101, 100, 95, 115, 117, 98, 109, 111, 100, 117, 108, 101, 115]), (.str (Str.mk #[95, 117, 110, 105, 110, 105, 116, 105, 97, 108, 105, 122, 101, 100, 95, 115, 117, 98, 109, 111, 100, 117, 108, 101, 115]) 213), (.ref 19)⟩, ⟨PyData.keyHash P (Str.mk #[95, 115, 101, 116, 95, 102, 105, 108, 101, 97, 116, 116, 114]), (.str (Str.mk #[95, 115, 101, 116, 95, 102, 105, 108, 101, 97, 116, 116, 114]) 214), (.bool false)⟩, ⟨PyData.keyHash P (Str.mk #[95, 99, 97, 99, 104, 101, 100]), (.str (Str.mk #[95, 99, 97, 99, 104, 101, 100]) 215), .none⟩, ⟨PyData.keyHash P (Str.mk #[95, 105, 110, 105, 116, 105, 97, 108, 105, 122, 105, 110, 103]), (.str (Str.mk #[95, 105, 110, 105, 116, 105, 97, 108, 105, 122, 105, 110, 103]) 243), (.bool false)⟩] 9), #[]⟩
noncomputable def o21_e (P : Params) : Obj := ⟨(.type PySem.W.SL.s14018661285674007319x4), none, (.dict #[⟨PyData.keyHash P (Str.mk #[95, 95, 109, 111, 100, 117, 108, 101, 95, 95]), (.str (Str.mk #[95, 95, 109, 111, 100, 117, 108, 101, 95, 95]) 227), (.str (Str.mk #[95, 102, 114, 111, 122, 101, 110, 95, 105, 109, 112, 111, 114, 116, 108, 105, 98]) 217)⟩, ⟨PyData.keyHash P (Str.mk #[95, 95, 102, 105, 114, 115, 116, 108, 105, 110, 101, 110, 111, 95, 95]), (.str (Str.mk #[95, 95, 102, 105, 114, 115, 116, 108, 105, 110, 101, 110, 111, 95, 95]) 228), (.int 562 218)⟩, ⟨PyData.keyHash P (Str.mk #[95, 95, 100, 111, 99, 95, 95]), (.str (Str.mk #[95, 95, 100, 111, 99, 95, 95]) 229), (.builtin "_frozen_importlib.ModuleSpec.__doc__:str#opaque")⟩, ⟨PyData.keyHash P (Str.mk #[95, 95, 105, 110, 105, 116, 95, 95]), (.str (Str.mk #[95, 95, 105, 110, 105, 116, 95, 95]) 230), (.builtin "_frozen_importlib.ModuleSpec.__init__#opaque")⟩, ⟨PyData.keyHash P (Str.mk #[95, 95, 114, 101, 112, 114, 95, 95]), (.str (Str.mk #[95, 95, 114, 101, 112, 114, 95, 95]) 231), (.builtin "_frozen_importlib.ModuleSpec.__repr__#opaque")⟩, ⟨PyData.keyHash P (Str.mk #[95, 95, 101, 113, 95, 95]), (.str (Str.mk #[95, 95, 101, 113, 95, 95]) 232), (.builtin "_frozen_importlib.ModuleSpec.__eq__#opaque")⟩, ⟨PyData.keyHash P (Str.mk #[99, 97, 99, 104, 101, 100]), (.str (Str.mk #[99, 97, 99, 104, 101, 100]) 233), (.builtin "_frozen_importlib.ModuleSpec.cached#opaque")⟩, ⟨PyData.keyHash P (Str.mk #[112, 97, 114, 101, 110, 116]), (.str (Str.mk #[112, 97, 114, 101, 110, 116]) 234), (.builtin "_frozen_importlib.ModuleSpec.parent#opaque")⟩, ⟨PyData.keyHash P (Str.mk #[104, 97, 115, 95, 108, 111, 99, 97, 116, 105, 111, 110]), (.str (Str.mk #[104, 97, 115, 95, 108, 111, 99, 97, 116, 105, 111, 110]) 235), (.builtin "_frozen_importlib.ModuleSpec.has_location#opaque")⟩, ⟨PyData.keyHash P (Str.mk #[95, 95, 115, 116, 97, 116, 105, 99, 95, 97, 116, 116, 114, 105, 98, 117, 116, 101, 115, 95, 95]), (.str (Str.mk #[95, 95, 115, 116, 97, 116, 105, 99, 95, 97, 116, 116, 114, 105, 98, 117, 116, 101, 115, 95, 95]) 236), (.ref 23)⟩, ⟨PyData.keyHash P (Str.mk #[95, 95, 100, 105, 99, 116, 95, 95]), (.str (Str.mk #[95, 95, 100, 105, 99, 116, 95, 95]) 238), (.ref 24)⟩, ⟨PyData.keyHash P (Str.mk #[95, 95, 119, 101, 97, 107, 114, 101, 102, 95, 95]), (.str (Str.mk #[95, 95, 119, 101, 97, 107, 114, 101, 102, 95, 95]) 240), (.ref 25)⟩, ⟨PyData.keyHash P (Str.mk #[95, 95, 104, 97, 115, 104, 95, 95]), (.str (Str.mk #[95, 95, 104, 97, 115, 104, 95, 95]) 241), .none⟩] 13), #[]⟩
noncomputable def o22_e (P : Params) : Obj := ⟨(.type PySem.W.SL.s17162191345867700912x4), none, (.cls ⟨(Str.mk #[77, 111, 100, 117, 108, 101, 83, 112, 101, 99]), [(.type PySem.W.SL.s2742458400755230247x6)], [(.ref 22), (.type PySem.W.SL.s2742458400755230247x6)], 21, (Str.mk #[77, 111, 100, 117, 108, 101, 83, 112, 101, 99]), true, [], [], false, none, false⟩), #[]⟩
noncomputable def o23_e (P : Params) : Obj := ⟨(.type PySem.W.SL.s2766695959194262286x5), none, (.seq #[(.str (Str.mk #[95, 99, 97, 99, 104, 101, 100]) 219), (.str (Str.mk #[95, 115, 101, 116, 95, 102, 105, 108, 101, 97, 116, 116, 114]) 220), (.str (Str.mk #[95, 117, 110, 105, 110, 105, 116, 105, 97, 108, 105, 122, 101, 100, 95, 115, 117, 98, 109, 111, 100, 117, 108, 101, 115]) 221), (.str (Str.mk #[108, 111, 97, 100, 101, 114]) 222), (.str (Str.mk #[108, 111, 97, 100, 101, 114, 95, 115, 116, 97, 116, 101]) 223), (.str (Str.mk #[110, 97, 109, 101]) 224), (.str (Str.mk #[111, 114, 105, 103, 105, 110]) 225), (.str (Str.mk #[115, 117, 98, 109, 111, 100, 117, 108, 101, 95, 115, 101, 97, 114, 99, 104, 95, 108, 111, 99, 97, 116, 105, 111, 110, 115]) 226)] 0), #[]⟩
noncomputable def o24_e (P : Params) : Obj := ⟨(.type PySem.W.SL.s14755015743595814543x17), none, (.fields #[(.str (Str.mk #[95, 95, 100, 105, 99, 116, 95, 95]) 237), (.ref 22), (.builtin PySem.W.SL.s6511155373996960695x17), (.builtin PySem.W.SL.s12411053484034534018x21)]), #[]⟩
noncomputable def o25_e (P : Params) : Obj := ⟨(.type PySem.W.SL.s14755015743595814543x17), none, (.fields #[(.str (Str.mk #[95, 95, 119, 101, 97, 107, 114, 101, 102, 95, 95]) 239), (.ref 22), (.builtin PySem.W.SL.s10220274742760427390x26), .none]), #[]⟩
noncomputable def o26_e (P : Params) : Obj := ⟨(.ref 22), (some 20), .plain, #[]⟩
noncomputable def o27_e (P : Params) : Obj := ⟨.none, none, (.seq #[(.int 11 0), (.str (Str.mk #[6, 247, 8, 95, 95, 110, 97, 109, 101, 95, 95, 6, 246, 4, 95, 115, 114, 101, 6, 248, 7, 95, 95, 100, 111, 99, 95, 95, 0, 6, 250, 11, 95, 95, 112, 97, 99, 107, 97, 103, 101, 95, 95, 6, 249, 0, 6, 251, 10, 95, 95, 108, 111, 97, 100, 101, 114, 95, 95, 4, 0, 0, 14, 6, 252, 8, 95, 95, 115, 112, 101, 99, 95, 95, 4, 0, 0, 26, 6, 253, 7, 99, 111, 109, 112, 105, 108, 101, 9, 12, 95, 115, 114, 101, 46, 99, 111, 109, 112, 105, 108, 101, 6, 254, 8, 116, 101, 109, 112, 108, 97, 116, 101, 9, 13, 95, 115, 114, 101, 46, 116, 101, 109, 112, 108, 97, 116, 101, 6, 255, 11, 103, 101, 116, 99, 111, 100, 101, 115, 105, 122, 101, 9, 16, 95, 115, 114, 101, 46, 103, 101, 116, 99, 111, 100, 101, 115, 105, 122, 101, 6, 256, 13, 97, 115, 99, 105, 105, 95, 105, 115, 99, 97, 115, 101, 100, 9, 18, 95, 115, 114, 101, 46, 97, 115, 99, 105, 105, 95, 105, 115, 99, 97, 115, 101, 100, 6, 257, 15, 117, 110, 105, 99, 111, 100, 101, 95, 105, 115, 99, 97, 115, 101, 100, 9, 20, 95, 115, 114, 101, 46, 117, 110, 105, 99, 111, 100, 101, 95, 105, 115, 99, 97, 115, 101, 100, 6, 258, 13, 97, 115, 99, 105, 105, 95, 116, 111, 108, 111, 119, 101, 114, 9, 18, 95, 115, 114, 101, 46, 97, 115, 99, 105, 105, 95, 116, 111, 108, 111, 119, 101, 114, 6, 259, 15, 117, 110, 105, 99, 111, 100, 101, 95, 116, 111, 108, 111, 119, 101, 114, 9, 20, 95, 115, 114, 101, 46, 117, 110, 105, 99, 111, 100, 101, 95, 116, 111, 108, 111, 119, 101, 114, 6, 261, 5, 77, 65, 71, 73, 67, 4, 260, 0, 20230612, 6, 263, 8, 67, 79, 68, 69, 83, 73, 90, 69, 4, 262, 0, 4, 6, 265, 9, 77, 65, 88, 82, 69, 80, 69, 65, 84, 4, 264, 0, 4294967295, 6, 267, 9, 77, 65, 88, 71, 82, 79, 85, 80, 83, 4, 266, 0, 1073741823, 6, 269, 9, 99, 111, 112, 121, 114, 105, 103, 104, 116, 6, 268, 53, 32, 83, 82, 69, 32, 50, 46, 50, 46, 50, 32, 67, 111, 112, 121, 114, 105, 103, 104, 116, 32, 40, 99, 41, 32, 49, 57, 57, 55, 45, 50, 48, 48, 50, 32, 98, 121, 32, 83, 101, 99, 114, 101, 116, 32, 76, 97, 98, 115, 32, 65, 66, 32]) 0), (.bool true), (.bool false), (.str (Str.mk #[95, 115, 114, 101]) 271)] 0), #[]⟩
noncomputable def tr_e (P : Params) : BT := (.node (o0_e P) (.node (o1_e P) (.node (o3_e P) (.node (o7_e P) (.node (o15_e P) .nil .nil) (.node (o23_e P) .nil .nil)) (.node (o11_e P) (.node (o19_e P) .nil .nil) (.node (o27_e P) .nil .nil))) (.node (o5_e P) (.node (o9_e P) (.node (o17_e P) .nil .nil) (.node (o25_e P) .nil .nil)) (.node (o13_e P) (.node (o21_e P) .nil .nil) .nil))) (.node (o2_e P) (.node (o4_e P) (.node (o8_e P) (.node (o16_e P) .nil .nil) (.node (o24_e P) .nil .nil)) (.node (o12_e P) (.node (o20_e P) .nil .nil) .nil)) (.node (o6_e P) (.node (o10_e P) (.node (o18_e P) .nil .nil) (.node (o26_e P) .nil .nil)) (.node (o14_e P) (.node (o22_e P) .nil .nil) .nil))))
noncomputable def o11_s (P : Params) : Obj := ⟨(.type PySem.W.SL.s14018661285674007319x4), none, (.dict #[⟨PyData.keyHash P (Str.mk #[95, 95, 110, 97, 109, 101, 95, 95]), (.str (Str.mk #[95, 95, 110, 97, 109, 101, 95, 95]) 247), (.str (Str.mk #[95, 115, 114, 101]) 246)⟩, ⟨PyData.keyHash P (Str.mk #[95, 95, 100, 111, 99, 95, 95]), (.str (Str.mk #[95, 95, 100, 111, 99, 95, 95]) 248), .none⟩, ⟨PyData.keyHash P (Str.mk #[95, 95, 112, 97, 99, 107, 97, 103, 101, 95, 95]), (.str (Str.mk #[95, 95, 112, 97, 99, 107, 97, 103, 101, 95, 95]) 250), (.str (Str.mk #[]) 249)⟩, ⟨PyData.keyHash P (Str.mk #[95, 95, 108, 111, 97, 100, 101, 114, 95, 95]), (.str (Str.mk #[95, 95, 108, 111, 97, 100, 101, 114, 95, 95]) 251), (.builtin "off-the-table:_sre.__loader__:shared#opaque")⟩, ⟨PyData.keyHash P (Str.mk #[95, 95, 115, 112, 101, 99, 95, 95]), (.str (Str.mk #[95, 95, 115, 112, 101, 99, 95, 95]) 252), (.builtin "off-the-table:_sre.__spec__:shared#opaque")⟩, ⟨PyData.keyHash P (Str.mk #[99, 111, 109, 112, 105, 108, 101]), (.str (Str.mk #[99, 111, 109, 112, 105, 108, 101]) 253), (.builtin PySem.W.SL.s492968859115322481x12)⟩, ⟨PyData.keyHash P (Str.mk #[116, 101, 109, 112, 108, 97, 116, 101]), (.str (Str.mk #[116, 101, 109, 112, 108, 97, 116, 101]) 254), (.builtin "off-the-table:_sre.template:shared#opaque")⟩, ⟨PyData.keyHash P (Str.mk #[103, 101, 116, 99, 111, 100, 101, 115, 105, 122, 101]), (.str (Str.mk #[103, 101, 116, 99, 111, 100, 101, 115, 105, 122, 101]) 255), (.builtin "off-the-table:_sre.getcodesize:shared#opaque")⟩, ⟨PyData.keyHash P (Str.mk #[97, 115, 99, 105, 105, 95, 105, 115, 99, 97, 115, 101, 100]), (.str (Str.mk #[97, 115, 99, 105, 105, 95, 105, 115, 99, 97, 115, 101, 100]) 256), (.builtin "off-the-table:_sre.ascii_iscased:shared#opaque")⟩, ⟨PyData.keyHash P (Str.mk #[117, 110, 105, 99, 111, 100, 101, 95, 105, 115, 99, 97, 115, 101, 100]), (.str (Str.mk #[117, 110, 105, 99, 111, 100, 101, 95, 105, 115, 99, 97, 115, 101, 100]) 257), (.builtin "off-the-table:_sre.unicode_iscased:shared#opaque")⟩, ⟨PyData.keyHash P (Str.mk #[97, 115, 99, 105, 105, 95, 116, 111, 108, 111, 119, 101, 114]), (.str (Str.mk #[97, 115, 99, 105, 105, 95, 116, 111, 108, 111, 119, 101, 114]) 258), (.builtin "off-the-table:_sre.ascii_tolower:shared#opaque")⟩, ⟨PyData.keyHash P (Str.mk #[117, 110, 105, 99, 111, 100, 101, 95, 116, 111, 108, 111, 119, 101, 114]), (.str (Str.mk #[117, 110, 105, 99, 111, 100, 101, 95, 116, 111, 108, 111, 119, 101, 114]) 259), (.builtin "off-the-table:_sre.unicode_tolower:shared#opaque")⟩, ⟨PyData.keyHash P (Str.mk #[77, 65, 71, 73, 67]), (.str (Str.mk #[77, 65, 71, 73, 67]) 261), (.int 20230612 260)⟩, ⟨PyData.keyHash P (Str.mk #[67, 79, 68, 69, 83, 73, 90, 69]), (.str (Str.mk #[67, 79, 68, 69, 83, 73, 90, 69]) 263), (.int 4 262)⟩, ⟨PyData.keyHash P (Str.mk #[77, 65, 88, 82, 69, 80, 69, 65, 84]), (.str (Str.mk #[77, 65, 88, 82, 69, 80, 69, 65, 84]) 265), (.int 4294967295 264)⟩, ⟨PyData.keyHash P (Str.mk #[77, 65, 88, 71, 82, 79, 85, 80, 83]), (.str (Str.mk #[77, 65, 88, 71, 82, 79, 85, 80, 83]) 267), (.int 1073741823 266)⟩, ⟨PyData.keyHash P (Str.mk #[99, 111, 112, 121, 114, 105, 103, 104, 116]), (.str (Str.mk #[99, 111, 112, 121, 114, 105, 103, 104, 116]) 269), (.str (Str.mk #[32, 83, 82, 69, 32, 50, 46, 50, 46, 50, 32, 67, 111, 112, 121, 114, 105, 103, 104, 116, 32, 40, 99, 41, 32, 49, 57, 57, 55, 45, 50, 48, 48, 50, 32, 98, 121, 32, 83, 101, 99, 114, 101, 116, 32, 76, 97, 98, 115, 32, 65, 66, 32]) 268)⟩] 17), #[]⟩
noncomputable def hp_s (P : Params) : Heap := ⟨#[o0_e P, o1_e P, o2_e P, o3_e P, o4_e P, o5_e P, o6_e P, o7_e P, o8_e P, o9_e P, o10_e P, o11_s P, o12_e P, o13_e P, o14_e P, o15_e P, o16_e P, o17_e P, o18_e P, o19_e P, o20_e P, o21_e P, o22_e P, o23_e P, o24_e P, o25_e P, o26_e P, o27_e P], {}⟩
noncomputable def o28_a (P : Params) : Obj := ⟨(.type PySem.W.SL.s2766695959194262286x5), none, (.seq #[] 0), #[]⟩
noncomputable def o29_a (P : Params) : Obj := ⟨.none, none, (.fields #[]), #[]⟩
noncomputable def o30_a (P : Params) : Obj := ⟨(.type PySem.W.SL.s5856160107412720595x4), none, (.fields #[(.str (Str.mk #[60, 109, 111, 100, 117, 108, 101, 62]) 277), (.str (Str.mk #[60, 109, 111, 100, 117, 108, 101, 62]) 278), (.str (Str.mk #[47, 99, 108, 97, 105, 109, 47, 99, 117, 116, 46, 112, 121]) 279), (.int 1 0), (.int 0 0), (.int 0 0), (.int 0 0), (.int 0 0), (.ref 28), (.bool false), (.int 276 0), (.ref 29), .none, .none, .none, .none, (.int 280 0), (.int 1 0), (.str (Str.mk #[47, 99, 108, 97, 105, 109, 47, 99, 117, 116, 46, 112, 121]) 281)]), #[]⟩
noncomputable def o31_a (P : Params) : Obj := ⟨(.type PySem.W.SL.s658472552662922059x5), none, .plain, #[(some (.ref 30)), (some (.ref 3)), (some (.ref 3)), none, (some (.str (Str.mk #[95, 95, 109, 97, 105, 110, 95, 95]) 164)), none, (some (.ref 0))]⟩
noncomputable def hp_a (P : Params) : Heap := ⟨#[o0_e P, o1_e P, o2_e P, o3_e P, o4_e P, o5_e P, o6_e P, o7_e P, o8_e P, o9_e P, o10_e P, o11_s P, o12_e P, o13_e P, o14_e P, o15_e P, o16_e P, o17_e P, o18_e P, o19_e P, o20_e P, o21_e P, o22_e P, o23_e P, o24_e P, o25_e P, o26_e P, o27_e P, o28_a P, o29_a P, o30_a P, o31_a P], {}⟩
noncomputable def tr_b (P : Params) : BT := (.node (o0_e P) (.node (o1_e P) (.node (o3_e P) (.node (o7_e P) (.node (o15_e P) (.node (o31_a P) .nil .nil) .nil) (.node (o23_e P) .nil .nil)) (.node (o11_s P) (.node (o19_e P) .nil .nil) (.node (o27_e P) .nil .nil))) (.node (o5_e P) (.node (o9_e P) (.node (o17_e P) .nil .nil) (.node (o25_e P) .nil .nil)) (.node (o13_e P) (.node (o21_e P) .nil .nil) (.node (o29_a P) .nil .nil)))) (.node (o2_e P) (.node (o4_e P) (.node (o8_e P) (.node (o16_e P) .nil .nil) (.node (o24_e P) .nil .nil)) (.node (o12_e P) (.node (o20_e P) .nil .nil) (.node (o28_a P) .nil .nil))) (.node (o6_e P) (.node (o10_e P) (.node (o18_e P) .nil .nil) (.node (o26_e P) .nil .nil)) (.node (o14_e P) (.node (o22_e P) .nil .nil) (.node (o30_a P) .nil .nil)))))
noncomputable def L_open (w : World) : OsState → Option SharedT := fun os => impEndsT treeTable (opening pw) w 799 ⟨.nil, 0, {}, #[], {}, 1, os⟩ (start (opening pw)).2
noncomputable def R_open (w : World) : OsState → Option SharedT := fun os => some ⟨tr_e w.params, 28, {}, #[], {}, 276, os⟩
theorem L_open_self : L_open = L_open := rfl
theorem R_open_self : R_open = R_open := rfl
name_quick L_openQ for L_open by L_open_self
name_quick R_openQ for R_open by R_open_self
theorem E_open (w : World) : L_open w = R_open w := by
  rw [PySem.W.Fast.L_openQ_eq, PySem.W.Fast.R_openQ_eq]
  kernel_rfl
noncomputable def L_fence (w : World) : OsState → Option (Heap × Array GenState × Drawn × Nat) := fun os => (fenceModules? pw ⟨absHeap (tr_e w.params) 28 {}, #[], {}, 276, os⟩).map (fun s => (s.heap, s.gens, s.drawn, s.toks))
noncomputable def R_fence (w : World) : OsState → Option (Heap × Array GenState × Drawn × Nat) := fun os => some (hp_s w.params, #[], {}, 276)
theorem L_fence_self : L_fence = L_fence := rfl
theorem R_fence_self : R_fence = R_fence := rfl
name_quick L_fenceQ for L_fence by L_fence_self
name_quick R_fenceQ for R_fence by R_fence_self
theorem E_fence (w : World) : L_fence w = R_fence w := by
  rw [PySem.W.Fast.L_fenceQ_eq, PySem.W.Fast.R_fenceQ_eq]
  kernel_rfl
noncomputable def L_size (w : World) : Bool × Nat × Option Value := ((hp_s w.params).isNs mainGlobals && (#[] : Array GenState).size == 0, (hp_s w.params).objs.size, (hp_s w.params).nsMap mainGlobals "__annotations__")
noncomputable def R_size (w : World) : Bool × Nat × Option Value := (true, 28, (some (.ref 6)))
theorem L_size_self : L_size = L_size := rfl
theorem R_size_self : R_size = R_size := rfl
name_quick L_sizeQ for L_size by L_size_self
theorem E_size (w : World) : L_size w = R_size w := by
  rw [PySem.W.Fast.L_sizeQ_eq]
  kernel_rfl
noncomputable def env0 : Env := { scope := pw.main.scope, locals := mainNs, globals := mainNs, cells := [], code := (.ref 30), frame := some 31 }
noncomputable def fr0 : List Frame := [topFrame ⟨0, 0, 0, 0⟩]
noncomputable def bd0 : List Stmt := behindTheImports pw
noncomputable def cd0 : Code := .body bd0 env0
noncomputable def L_pre (w : World) : OsState → Option (Shared × Thread) := fun os => topGo treeTable pw w 28 (some (.ref 6)) 12 ⟨hp_s w.params, #[], {}, 276, os⟩ (topStub pw)
noncomputable def R_pre (w : World) : OsState → Option (Shared × Thread) := fun os => some (⟨hp_a w.params, #[], {}, 282, os⟩, ⟨denote treeTable cd0, cd0, ⟨0, 0, 0, 0⟩, fr0⟩)
theorem L_pre_self : L_pre = L_pre := rfl
theorem R_pre_self : R_pre = R_pre := rfl
name_quick L_preQ for L_pre by L_pre_self
name_quick R_preQ for R_pre by R_pre_self
theorem E_pre (w : World) : L_pre w = R_pre w := by
  rw [PySem.W.Fast.L_preQ_eq, PySem.W.Fast.R_preQ_eq]
  kernel_rfl
noncomputable def L_block (w : World) : OsState → Option (Flow × Shared × Code × Pos) := fun os => segRun treeTable pw w 28 (some (.ref 6)) 1 1 ⟨hp_a w.params, #[], {}, 282, os⟩ (blockOf bd0 env0 cd0 ⟨0, 0, 0, 0⟩ fr0)
noncomputable def R_block (w : World) : OsState → Option (Flow × Shared × Code × Pos) := fun os => some (.next, (SharedT.mk (tr_b w.params) 32 {} #[] {} 282 os).abs, cd0, ⟨0, 0, 0, 0⟩)
theorem L_block_self : L_block = L_block := rfl
theorem R_block_self : R_block = R_block := rfl
name_quick L_blockQ for L_block by L_block_self
name_quick R_blockQ for R_block by R_block_self
theorem E_block (w : World) : L_block w = R_block w := by
  rw [PySem.W.Fast.L_blockQ_eq, PySem.W.Fast.R_blockQ_eq]
  kernel_rfl
noncomputable def sts0 : List Stmt := [(pw.main.body[1]?).getD default, (pw.main.body[2]?).getD default, (pw.main.body[3]?).getD default, (pw.main.body[4]?).getD default, (pw.main.body[5]?).getD default]
noncomputable def o3_p0 (P : Params) : Obj := ⟨(.type PySem.W.SL.s14018661285674007319x4), none, (.dict #[⟨PyData.keyHash P (Str.mk #[95, 95, 110, 97, 109, 101, 95, 95]), (.str (Str.mk #[95, 95, 110, 97, 109, 101, 95, 95]) 165), (.str (Str.mk #[99, 112, 121, 51, 49, 51, 46, 115, 116, 114, 105, 110, 103, 112, 114, 101, 112]) 332)⟩, ⟨PyData.keyHash P (Str.mk #[95, 95, 100, 111, 99, 95, 95]), (.str (Str.mk #[95, 95, 100, 111, 99, 95, 95]) 166), .none⟩, ⟨PyData.keyHash P (Str.mk #[95, 95, 112, 97, 99, 107, 97, 103, 101, 95, 95]), (.str (Str.mk #[95, 95, 112, 97, 99, 107, 97, 103, 101, 95, 95]) 167), .none⟩, ⟨PyData.keyHash P (Str.mk #[95, 95, 108, 111, 97, 100, 101, 114, 95, 95]), (.str (Str.mk #[95, 95, 108, 111, 97, 100, 101, 114, 95, 95]) 168), (.builtin PySem.W.SL.s7097527257260152453x26)⟩, ⟨PyData.keyHash P (Str.mk #[95, 95, 115, 112, 101, 99, 95, 95]), (.str (Str.mk #[95, 95, 115, 112, 101, 99, 95, 95]) 169), .none⟩, ⟨PyData.keyHash P (Str.mk #[95, 95, 97, 110, 110, 111, 116, 97, 116, 105, 111, 110, 115, 95, 95]), (.str (Str.mk #[95, 95, 97, 110, 110, 111, 116, 97, 116, 105, 111, 110, 115, 95, 95]) 170), (.ref 6)⟩, ⟨PyData.keyHash P (Str.mk #[95, 95, 98, 117, 105, 108, 116, 105, 110, 115, 95, 95]), (.str (Str.mk #[95, 95, 98, 117, 105, 108, 116, 105, 110, 115, 95, 95]) 171), (.ref 4)⟩, ⟨PyData.keyHash P (Str.mk #[95, 95, 102, 105, 108, 101, 95, 95]), (.str (Str.mk #[95, 95, 102, 105, 108, 101, 95, 95]) 173), (.str (Str.mk #[47, 99, 108, 97, 105, 109, 47, 99, 117, 116, 46, 112, 121]) 172)⟩, ⟨PyData.keyHash P (Str.mk #[95, 95, 99, 97, 99, 104, 101, 100, 95, 95]), (.str (Str.mk #[95, 95, 99, 97, 99, 104, 101, 100, 95, 95]) 174), .none⟩, ⟨PyData.keyHash P (Str.mk #[95, 115, 114, 101]), (.str (Str.mk #[95, 115, 114, 101]) 275), (.ref 12)⟩, ⟨PyData.keyHash P (Str.mk #[95, 119, 97, 108, 108]), (.str (Str.mk #[95, 119, 97, 108, 108]) 288), (.ref 38)⟩, ⟨PyData.keyHash P (Str.mk #[67, 79, 77, 80, 73, 76, 69, 82, 95, 70, 76, 65, 71, 95, 78, 65, 77, 69, 83]), (.str (Str.mk #[67, 79, 77, 80, 73, 76, 69, 82, 95, 70, 76, 65, 71, 95, 78, 65, 77, 69, 83]) 321), (.ref 39)⟩, ⟨PyData.keyHash P (Str.mk #[112, 114, 101, 116, 116, 121, 95, 102, 108, 97, 103, 115]), (.str (Str.mk #[112, 114, 101, 116, 116, 121, 95, 102, 108, 97, 103, 115]) 331), (.ref 46)⟩] 13), #[]⟩
noncomputable def o29_p0 (P : Params) : Obj := ⟨.none, none, (.fields #[(.int 2 0), (.int 0 0), (.ref 37), (.int 7 0), (.int 0 0), (.ref 45)]), #[]⟩
noncomputable def o32_p0 (P : Params) : Obj := ⟨(.type PySem.W.SL.s2766695959194262286x5), none, (.seq #[] 0), #[]⟩
noncomputable def o33_p0 (P : Params) : Obj := ⟨.none, none, (.fields #[]), #[]⟩
noncomputable def o34_p0 (P : Params) : Obj := ⟨(.type PySem.W.SL.s2766695959194262286x5), none, (.seq #[(.str (Str.mk #[107]) 285)] 0), #[]⟩
noncomputable def o35_p0 (P : Params) : Obj := ⟨(.type PySem.W.SL.s2766695959194262286x5), none, (.seq #[] 0), #[]⟩
noncomputable def o36_p0 (P : Params) : Obj := ⟨.none, none, (.func ⟨(Str.mk #[95, 119, 97, 108, 108]), (Str.mk #[95, 119, 97, 108, 108]), (fdOf (stm 1)).1, (.stmts (fdOf (stm 1)).2.1), (fdOf (stm 1)).2.2, 0, [], .none, .none, .none, .none, none, .none, .none, 0⟩), #[]⟩
noncomputable def o37_p0 (P : Params) : Obj := ⟨(.type PySem.W.SL.s5856160107412720595x4), none, (.fields #[(.str (Str.mk #[95, 119, 97, 108, 108]) 282), (.str (Str.mk #[95, 119, 97, 108, 108]) 283), (.str (Str.mk #[47, 99, 108, 97, 105, 109, 47, 99, 117, 116, 46, 112, 121]) 284), (.int 2 0), (.int 1 0), (.int 0 0), (.int 0 0), (.int 3 0), (.ref 32), (.bool true), (.int 276 0), (.ref 33), .none, (.ref 34), (.ref 35), (.ref 36), (.int 286 0), (.int 2 0), (.str (Str.mk #[47, 99, 108, 97, 105, 109, 47, 99, 117, 116, 46, 112, 121]) 287)]), #[]⟩
noncomputable def o38_p0 (P : Params) : Obj := ⟨(.type PySem.W.SL.s7174869446012820540x8), none, (.func ⟨(Str.mk #[95, 119, 97, 108, 108]), (Str.mk #[95, 119, 97, 108, 108]), (fdOf (stm 1)).1, (.stmts (fdOf (stm 1)).2.1), (fdOf (stm 1)).2.2, 3, [], .none, .none, .none, (.str (Str.mk #[95, 95, 109, 97, 105, 110, 95, 95]) 164), none, (.ref 37), .none, 0⟩), #[]⟩
noncomputable def o39_p0 (P : Params) : Obj := ⟨(.type PySem.W.SL.s14018661285674007319x4), none, (.dict #[⟨1, (.int 1 291), (.str (Str.mk #[79, 80, 84, 73, 77, 73, 90, 69, 68]) 292)⟩, ⟨2, (.int 2 293), (.str (Str.mk #[78, 69, 87, 76, 79, 67, 65, 76, 83]) 294)⟩, ⟨4, (.int 4 295), (.str (Str.mk #[86, 65, 82, 65, 82, 71, 83]) 296)⟩, ⟨8, (.int 8 297), (.str (Str.mk #[86, 65, 82, 75, 69, 89, 87, 79, 82, 68, 83]) 298)⟩, ⟨16, (.int 16 299), (.str (Str.mk #[78, 69, 83, 84, 69, 68]) 300)⟩, ⟨32, (.int 32 301), (.str (Str.mk #[71, 69, 78, 69, 82, 65, 84, 79, 82]) 302)⟩, ⟨64, (.int 64 303), (.str (Str.mk #[78, 79, 70, 82, 69, 69]) 304)⟩, ⟨128, (.int 128 305), (.str (Str.mk #[67, 79, 82, 79, 85, 84, 73, 78, 69]) 306)⟩, ⟨256, (.int 256 307), (.str (Str.mk #[73, 84, 69, 82, 65, 66, 76, 69, 95, 67, 79, 82, 79, 85, 84, 73, 78, 69]) 308)⟩, ⟨512, (.int 512 309), (.str (Str.mk #[65, 83, 89, 78, 67, 95, 71, 69, 78, 69, 82, 65, 84, 79, 82]) 310)⟩] 10), #[]⟩
noncomputable def o40_p0 (P : Params) : Obj := ⟨(.type PySem.W.SL.s2766695959194262286x5), none, (.seq #[] 0), #[]⟩
noncomputable def o41_p0 (P : Params) : Obj := ⟨.none, none, (.fields #[]), #[]⟩
noncomputable def o42_p0 (P : Params) : Obj := ⟨(.type PySem.W.SL.s2766695959194262286x5), none, (.seq #[(.str (Str.mk #[102, 108, 97, 103, 115]) 325), (.str (Str.mk #[110, 97, 109, 101, 115]) 326), (.str (Str.mk #[105]) 327), (.str (Str.mk #[102, 108, 97, 103]) 328)] 0), #[]⟩
noncomputable def o43_p0 (P : Params) : Obj := ⟨(.type PySem.W.SL.s2766695959194262286x5), none, (.seq #[] 0), #[]⟩
noncomputable def o44_p0 (P : Params) : Obj := ⟨.none, none, (.func ⟨(Str.mk #[112, 114, 101, 116, 116, 121, 95, 102, 108, 97, 103, 115]), (Str.mk #[112, 114, 101, 116, 116, 121, 95, 102, 108, 97, 103, 115]), (fdOf (stm 4)).1, (.stmts (fdOf (stm 4)).2.1), (fdOf (stm 4)).2.2, 0, [], .none, .none, .none, .none, none, .none, .none, 0⟩), #[]⟩
noncomputable def o45_p0 (P : Params) : Obj := ⟨(.type PySem.W.SL.s5856160107412720595x4), none, (.fields #[(.str (Str.mk #[112, 114, 101, 116, 116, 121, 95, 102, 108, 97, 103, 115]) 322), (.str (Str.mk #[112, 114, 101, 116, 116, 121, 95, 102, 108, 97, 103, 115]) 323), (.str (Str.mk #[47, 99, 108, 97, 105, 109, 47, 99, 117, 116, 46, 112, 121]) 324), (.int 7 0), (.int 1 0), (.int 0 0), (.int 0 0), (.int 3 0), (.ref 40), (.bool true), (.int 276 0), (.ref 41), .none, (.ref 42), (.ref 43), (.ref 44), (.int 329 0), (.int 7 0), (.str (Str.mk #[47, 99, 108, 97, 105, 109, 47, 99, 117, 116, 46, 112, 121]) 330)]), #[]⟩
noncomputable def o46_p0 (P : Params) : Obj := ⟨(.type PySem.W.SL.s7174869446012820540x8), none, (.func ⟨(Str.mk #[112, 114, 101, 116, 116, 121, 95, 102, 108, 97, 103, 115]), (Str.mk #[112, 114, 101, 116, 116, 121, 95, 102, 108, 97, 103, 115]), (fdOf (stm 4)).1, (.stmts (fdOf (stm 4)).2.1), (fdOf (stm 4)).2.2, 3, [], .none, .none, .none, (.str (Str.mk #[99, 112, 121, 51, 49, 51, 46, 100, 105, 115]) 289), none, (.ref 45), .none, 0⟩), #[]⟩
noncomputable def tr_p0 (P : Params) : BT := (.node (o0_e P) (.node (o1_e P) (.node (o3_p0 P) (.node (o7_e P) (.node (o15_e P) (.node (o31_a P) .nil .nil) .nil) (.node (o23_e P) (.node (o39_p0 P) .nil .nil) .nil)) (.node (o11_s P) (.node (o19_e P) (.node (o35_p0 P) .nil .nil) .nil) (.node (o27_e P) (.node (o43_p0 P) .nil .nil) .nil))) (.node (o5_e P) (.node (o9_e P) (.node (o17_e P) (.node (o33_p0 P) .nil .nil) .nil) (.node (o25_e P) (.node (o41_p0 P) .nil .nil) .nil)) (.node (o13_e P) (.node (o21_e P) (.node (o37_p0 P) .nil .nil) .nil) (.node (o29_p0 P) (.node (o45_p0 P) .nil .nil) .nil)))) (.node (o2_e P) (.node (o4_e P) (.node (o8_e P) (.node (o16_e P) (.node (o32_p0 P) .nil .nil) .nil) (.node (o24_e P) (.node (o40_p0 P) .nil .nil) .nil)) (.node (o12_e P) (.node (o20_e P) (.node (o36_p0 P) .nil .nil) .nil) (.node (o28_a P) (.node (o44_p0 P) .nil .nil) .nil))) (.node (o6_e P) (.node (o10_e P) (.node (o18_e P) (.node (o34_p0 P) .nil .nil) .nil) (.node (o26_e P) (.node (o42_p0 P) .nil .nil) .nil)) (.node (o14_e P) (.node (o22_e P) (.node (o38_p0 P) .nil .nil) .nil) (.node (o30_a P) (.node (o46_p0 P) .nil .nil) .nil)))))
noncomputable def L_p0 (w : World) : OsState → Option (Flow × SharedT × Code × Pos) := fun os => segRunT treeTable pw w 28 (some (.ref 6)) 1 220 ⟨tr_b w.params, 32, {}, #[], {}, 282, os⟩ (piecesOf sts0 env0 cd0 ⟨0, 0, 0, 0⟩ fr0)
noncomputable def R_p0 (w : World) : OsState → Option (Flow × SharedT × Code × Pos) := fun os => some (.next, ⟨tr_p0 w.params, 47, {}, #[], {}, 334, os⟩, cd0, ⟨19, 0, 19, 8⟩)
theorem L_p0_self : L_p0 = L_p0 := rfl
theorem R_p0_self : R_p0 = R_p0 := rfl
name_quick L_p0Q for L_p0 by L_p0_self
name_quick R_p0Q for R_p0 by R_p0_self
theorem E_p0 (w : World) : L_p0 w = R_p0 w := by
  rw [PySem.W.Fast.L_p0Q_eq, PySem.W.Fast.R_p0Q_eq]
  exact byRow2 "special-get-raises" (P := fun w => PySem.W.Fast.L_p0Q w = PySem.W.Fast.R_p0Q w) (fun w => by kernel_rfl) (fun w => by kernel_rfl) w
noncomputable def sts1 : List Stmt := [(pw.main.body[6]?).getD default]
noncomputable def o3_p1 (P : Params) : Obj := ⟨(.type PySem.W.SL.s14018661285674007319x4), none, (.dict #[⟨PyData.keyHash P (Str.mk #[95, 95, 110, 97, 109, 101, 95, 95]), (.str (Str.mk #[95, 95, 110, 97, 109, 101, 95, 95]) 165), (.str (Str.mk #[99, 112, 121, 51, 49, 51, 46, 115, 116, 114, 105, 110, 103, 112, 114, 101, 112]) 332)⟩, ⟨PyData.keyHash P (Str.mk #[95, 95, 100, 111, 99, 95, 95]), (.str (Str.mk #[95, 95, 100, 111, 99, 95, 95]) 166), .none⟩, ⟨PyData.keyHash P (Str.mk #[95, 95, 112, 97, 99, 107, 97, 103, 101, 95, 95]), (.str (Str.mk #[95, 95, 112, 97, 99, 107, 97, 103, 101, 95, 95]) 167), .none⟩, ⟨PyData.keyHash P (Str.mk #[95, 95, 108, 111, 97, 100, 101, 114, 95, 95]), (.str (Str.mk #[95, 95, 108, 111, 97, 100, 101, 114, 95, 95]) 168), (.builtin PySem.W.SL.s7097527257260152453x26)⟩, ⟨PyData.keyHash P (Str.mk #[95, 95, 115, 112, 101, 99, 95, 95]), (.str (Str.mk #[95, 95, 115, 112, 101, 99, 95, 95]) 169), .none⟩, ⟨PyData.keyHash P (Str.mk #[95, 95, 97, 110, 110, 111, 116, 97, 116, 105, 111, 110, 115, 95, 95]), (.str (Str.mk #[95, 95, 97, 110, 110, 111, 116, 97, 116, 105, 111, 110, 115, 95, 95]) 170), (.ref 6)⟩, ⟨PyData.keyHash P (Str.mk #[95, 95, 98, 117, 105, 108, 116, 105, 110, 115, 95, 95]), (.str (Str.mk #[95, 95, 98, 117, 105, 108, 116, 105, 110, 115, 95, 95]) 171), (.ref 4)⟩, ⟨PyData.keyHash P (Str.mk #[95, 95, 102, 105, 108, 101, 95, 95]), (.str (Str.mk #[95, 95, 102, 105, 108, 101, 95, 95]) 173), (.str (Str.mk #[47, 99, 108, 97, 105, 109, 47, 99, 117, 116, 46, 112, 121]) 172)⟩, ⟨PyData.keyHash P (Str.mk #[95, 95, 99, 97, 99, 104, 101, 100, 95, 95]), (.str (Str.mk #[95, 95, 99, 97, 99, 104, 101, 100, 95, 95]) 174), .none⟩, ⟨PyData.keyHash P (Str.mk #[95, 115, 114, 101]), (.str (Str.mk #[95, 115, 114, 101]) 275), (.ref 12)⟩, ⟨PyData.keyHash P (Str.mk #[95, 119, 97, 108, 108]), (.str (Str.mk #[95, 119, 97, 108, 108]) 288), (.ref 38)⟩, ⟨PyData.keyHash P (Str.mk #[67, 79, 77, 80, 73, 76, 69, 82, 95, 70, 76, 65, 71, 95, 78, 65, 77, 69, 83]), (.str (Str.mk #[67, 79, 77, 80, 73, 76, 69, 82, 95, 70, 76, 65, 71, 95, 78, 65, 77, 69, 83]) 321), (.ref 39)⟩, ⟨PyData.keyHash P (Str.mk #[112, 114, 101, 116, 116, 121, 95, 102, 108, 97, 103, 115]), (.str (Str.mk #[112, 114, 101, 116, 116, 121, 95, 102, 108, 97, 103, 115]) 331), (.ref 46)⟩, ⟨PyData.keyHash P (Str.mk #[98, 49, 95, 115, 101, 116]), (.str (Str.mk #[98, 49, 95, 115, 101, 116]) 393), (.ref 54)⟩] 14), #[]⟩
noncomputable def o47_p1 (P : Params) : Obj := ⟨(.type PySem.W.SL.s9222952809800978799x4), none, (.seq #[(.int 173 334), (.int 847 335), (.int 6150 336), (.int 6155 337), (.int 6156 338), (.int 6157 339), (.int 8203 340), (.int 8204 341), (.int 8205 342), (.int 8288 343), (.int 65279 344)] 0), #[]⟩
noncomputable def o48_p1 (P : Params) : Obj := ⟨(.type PySem.W.SL.s1438033511350832697x5), none, (.fields #[(.int 65024 345), (.int 65040 346), (.int 1 347)]), #[]⟩
noncomputable def o49_p1 (P : Params) : Obj := ⟨(.type PySem.W.SL.s9222952809800978799x4), none, (.seq #[(.int 65024 350), (.int 65025 351), (.int 65026 352), (.int 65027 353), (.int 65028 354), (.int 65029 355), (.int 65030 356), (.int 65031 357), (.int 65032 358), (.int 65033 359), (.int 65034 360), (.int 65035 361), (.int 65036 362), (.int 65037 363), (.int 65038 364), (.int 65039 365)] 18), #[]⟩
noncomputable def o50_p1 (P : Params) : Obj := ⟨(.type PySem.W.SL.s15992201931430999065x14), none, (.fields #[(.int 65040 0), (.int 0 0), (.int 1 0)]), #[]⟩
noncomputable def o51_p1 (P : Params) : Obj := ⟨(.type PySem.W.SL.s2766695959194262286x5), none, (.seq #[] 0), #[]⟩
noncomputable def o52_p1 (P : Params) : Obj := ⟨(.type PySem.W.SL.s5991306692159431302x13), none, (.fields #[(.ref 51), .none, .none, .none, (.bool false), .none]), #[]⟩
noncomputable def o53_p1 (P : Params) : Obj := ⟨(.type PySem.W.SL.s9222952809800978799x4), none, (.seq #[(.int 173 334), (.int 847 335), (.int 6150 336), (.int 6155 337), (.int 6156 338), (.int 6157 339), (.int 8203 340), (.int 8204 341), (.int 8205 342), (.int 8288 343), (.int 65279 344), (.int 65024 350), (.int 65025 351), (.int 65026 352), (.int 65027 353), (.int 65028 354), (.int 65029 355), (.int 65030 356), (.int 65031 357), (.int 65032 358), (.int 65033 359), (.int 65034 360), (.int 65035 361), (.int 65036 362), (.int 65037 363), (.int 65038 364), (.int 65039 365)] 0), #[]⟩
noncomputable def o54_p1 (P : Params) : Obj := ⟨(.type PySem.W.SL.s3642769012341782148x3), none, (.set #[(65024, (.int 65024 350)), (65025, (.int 65025 351)), (65026, (.int 65026 352)), (65027, (.int 65027 353)), (65028, (.int 65028 354)), (65029, (.int 65029 355)), (6150, (.int 6150 336)), (65030, (.int 65030 356)), (65031, (.int 65031 357)), (65032, (.int 65032 358)), (65033, (.int 65033 359)), (6155, (.int 6155 337)), (6156, (.int 6156 338)), (6157, (.int 6157 339)), (8203, (.int 8203 340)), (8204, (.int 8204 341)), (8205, (.int 8205 342)), (65034, (.int 65034 360)), (65035, (.int 65035 361)), (65036, (.int 65036 362)), (65037, (.int 65037 363)), (65038, (.int 65038 364)), (65039, (.int 65039 365)), (173, (.int 173 334)), (847, (.int 847 335)), (8288, (.int 8288 343)), (65279, (.int 65279 344))] 29 ⟨127, #[0, 1, 2, 3, 4, 5, 6, 7, 8, 9, 10, 11, 12, 13, 14, 15, 16, 17, 18, 19, 20, 21, 22, 45, 79, 96, 127], #[], 0, (!P.followText "set-order"), 2, true⟩), #[]⟩
noncomputable def o55_p1 (P : Params) : Obj := ⟨(.type PySem.W.SL.s3492446563574874994x13), none, (.fields #[.none, (.int 27 0)]), #[]⟩
noncomputable def o56_p1 (P : Params) : Obj := ⟨(.type PySem.W.SL.s2766695959194262286x5), none, (.seq #[] 0), #[]⟩
noncomputable def o57_p1 (P : Params) : Obj := ⟨(.type PySem.W.SL.s5991306692159431302x13), none, (.fields #[(.ref 56), .none, .none, .none, (.bool false), .none]), #[]⟩
noncomputable def tr_p1_c0 (P : Params) : BT := (.node (o7_e P) (.node (o15_e P) (.node (o31_a P) .nil .nil) (.node (o47_p1 P) .nil .nil)) (.node (o23_e P) (.node (o39_p0 P) .nil .nil) (.node (o55_p1 P) .nil .nil)))
noncomputable def tr_p1_c1 (P : Params) : BT := (.node (o11_s P) (.node (o19_e P) (.node (o35_p0 P) .nil .nil) (.node (o51_p1 P) .nil .nil)) (.node (o27_e P) (.node (o43_p0 P) .nil .nil) .nil))
noncomputable def tr_p1_c2 (P : Params) : BT := (.node (o3_p1 P) (tr_p1_c0 P) (tr_p1_c1 P))
noncomputable def tr_p1_c3 (P : Params) : BT := (.node (o9_e P) (.node (o17_e P) (.node (o33_p0 P) .nil .nil) (.node (o49_p1 P) .nil .nil)) (.node (o25_e P) (.node (o41_p0 P) .nil .nil) (.node (o57_p1 P) .nil .nil)))
noncomputable def tr_p1_c4 (P : Params) : BT := (.node (o13_e P) (.node (o21_e P) (.node (o37_p0 P) .nil .nil) (.node (o53_p1 P) .nil .nil)) (.node (o29_p0 P) (.node (o45_p0 P) .nil .nil) .nil))
noncomputable def tr_p1_c5 (P : Params) : BT := (.node (o5_e P) (tr_p1_c3 P) (tr_p1_c4 P))
noncomputable def tr_p1_c6 (P : Params) : BT := (.node (o8_e P) (.node (o16_e P) (.node (o32_p0 P) .nil .nil) (.node (o48_p1 P) .nil .nil)) (.node (o24_e P) (.node (o40_p0 P) .nil .nil) (.node (o56_p1 P) .nil .nil)))
noncomputable def tr_p1_c7 (P : Params) : BT := (.node (o12_e P) (.node (o20_e P) (.node (o36_p0 P) .nil .nil) (.node (o52_p1 P) .nil .nil)) (.node (o28_a P) (.node (o44_p0 P) .nil .nil) .nil))
noncomputable def tr_p1_c8 (P : Params) : BT := (.node (o4_e P) (tr_p1_c6 P) (tr_p1_c7 P))
noncomputable def tr_p1_c9 (P : Params) : BT := (.node (o10_e P) (.node (o18_e P) (.node (o34_p0 P) .nil .nil) (.node (o50_p1 P) .nil .nil)) (.node (o26_e P) (.node (o42_p0 P) .nil .nil) .nil))
noncomputable def tr_p1_c10 (P : Params) : BT := (.node (o14_e P) (.node (o22_e P) (.node (o38_p0 P) .nil .nil) (.node (o54_p1 P) .nil .nil)) (.node (o30_a P) (.node (o46_p0 P) .nil .nil) .nil))
noncomputable def tr_p1_c11 (P : Params) : BT := (.node (o6_e P) (tr_p1_c9 P) (tr_p1_c10 P))
noncomputable def tr_p1 (P : Params) : BT := (.node (o0_e P) (.node (o1_e P) (tr_p1_c2 P) (tr_p1_c5 P)) (.node (o2_e P) (tr_p1_c8 P) (tr_p1_c11 P)))
noncomputable def L_p1 (w : World) : OsState → Option (Flow × SharedT × Code × Pos) := fun os => segRunT treeTable pw w 28 (some (.ref 6)) 1 999 ⟨tr_p0 w.params, 47, {}, #[], {}, 334, os⟩ (piecesOf sts1 env0 cd0 ⟨19, 0, 19, 8⟩ fr0)
noncomputable def R_p1 (w : World) : OsState → Option (Flow × SharedT × Code × Pos) := fun os => some (.next, ⟨tr_p1 w.params, 58, {}, #[], {}, 394, os⟩, cd0, ⟨20, 0, 20, 6⟩)
theorem L_p1_self : L_p1 = L_p1 := rfl
theorem R_p1_self : R_p1 = R_p1 := rfl
name_quick L_p1Q for L_p1 by L_p1_self
name_quick R_p1Q for R_p1 by R_p1_self
theorem E_p1 (w : World) : L_p1 w = R_p1 w := by
  rw [PySem.W.Fast.L_p1Q_eq, PySem.W.Fast.R_p1Q_eq]
  exact byRow2 "set-order" (P := fun w => PySem.W.Fast.L_p1Q w = PySem.W.Fast.R_p1Q w) (fun w => byRow2 "special-get-raises" (P := fun w => PySem.W.Fast.L_p1Q (w.withFollow "set-order" false) = PySem.W.Fast.R_p1Q (w.withFollow "set-order" false)) (fun w => by kernel_rfl) (fun w => by kernel_rfl) w) (fun w => byRow2 "special-get-raises" (P := fun w => PySem.W.Fast.L_p1Q (w.withFollow "set-order" true) = PySem.W.Fast.R_p1Q (w.withFollow "set-order" true)) (fun w => by kernel_rfl) (fun w => by kernel_rfl) w) w
noncomputable def sts2 : List Stmt := [(pw.main.body[7]?).getD default, (pw.main.body[8]?).getD default, (pw.main.body[9]?).getD default]
noncomputable def o3_p2 (P : Params) : Obj := ⟨(.type PySem.W.SL.s14018661285674007319x4), none, (.dict #[⟨PyData.keyHash P (Str.mk #[95, 95, 110, 97, 109, 101, 95, 95]), (.str (Str.mk #[95, 95, 110, 97, 109, 101, 95, 95]) 165), (.str (Str.mk #[99, 112, 121, 51, 49, 51, 46, 116, 97, 98, 110, 97, 110, 110, 121]) 401)⟩, ⟨PyData.keyHash P (Str.mk #[95, 95, 100, 111, 99, 95, 95]), (.str (Str.mk #[95, 95, 100, 111, 99, 95, 95]) 166), .none⟩, ⟨PyData.keyHash P (Str.mk #[95, 95, 112, 97, 99, 107, 97, 103, 101, 95, 95]), (.str (Str.mk #[95, 95, 112, 97, 99, 107, 97, 103, 101, 95, 95]) 167), .none⟩, ⟨PyData.keyHash P (Str.mk #[95, 95, 108, 111, 97, 100, 101, 114, 95, 95]), (.str (Str.mk #[95, 95, 108, 111, 97, 100, 101, 114, 95, 95]) 168), (.builtin PySem.W.SL.s7097527257260152453x26)⟩, ⟨PyData.keyHash P (Str.mk #[95, 95, 115, 112, 101, 99, 95, 95]), (.str (Str.mk #[95, 95, 115, 112, 101, 99, 95, 95]) 169), .none⟩, ⟨PyData.keyHash P (Str.mk #[95, 95, 97, 110, 110, 111, 116, 97, 116, 105, 111, 110, 115, 95, 95]), (.str (Str.mk #[95, 95, 97, 110, 110, 111, 116, 97, 116, 105, 111, 110, 115, 95, 95]) 170), (.ref 6)⟩, ⟨PyData.keyHash P (Str.mk #[95, 95, 98, 117, 105, 108, 116, 105, 110, 115, 95, 95]), (.str (Str.mk #[95, 95, 98, 117, 105, 108, 116, 105, 110, 115, 95, 95]) 171), (.ref 4)⟩, ⟨PyData.keyHash P (Str.mk #[95, 95, 102, 105, 108, 101, 95, 95]), (.str (Str.mk #[95, 95, 102, 105, 108, 101, 95, 95]) 173), (.str (Str.mk #[47, 99, 108, 97, 105, 109, 47, 99, 117, 116, 46, 112, 121]) 172)⟩, ⟨PyData.keyHash P (Str.mk #[95, 95, 99, 97, 99, 104, 101, 100, 95, 95]), (.str (Str.mk #[95, 95, 99, 97, 99, 104, 101, 100, 95, 95]) 174), .none⟩, ⟨PyData.keyHash P (Str.mk #[95, 115, 114, 101]), (.str (Str.mk #[95, 115, 114, 101]) 275), (.ref 12)⟩, ⟨PyData.keyHash P (Str.mk #[95, 119, 97, 108, 108]), (.str (Str.mk #[95, 119, 97, 108, 108]) 288), (.ref 38)⟩, ⟨PyData.keyHash P (Str.mk #[67, 79, 77, 80, 73, 76, 69, 82, 95, 70, 76, 65, 71, 95, 78, 65, 77, 69, 83]), (.str (Str.mk #[67, 79, 77, 80, 73, 76, 69, 82, 95, 70, 76, 65, 71, 95, 78, 65, 77, 69, 83]) 321), (.ref 39)⟩, ⟨PyData.keyHash P (Str.mk #[112, 114, 101, 116, 116, 121, 95, 102, 108, 97, 103, 115]), (.str (Str.mk #[112, 114, 101, 116, 116, 121, 95, 102, 108, 97, 103, 115]) 331), (.ref 46)⟩, ⟨PyData.keyHash P (Str.mk #[98, 49, 95, 115, 101, 116]), (.str (Str.mk #[98, 49, 95, 115, 101, 116]) 393), (.ref 54)⟩, ⟨PyData.keyHash P (Str.mk #[105, 110, 95, 116, 97, 98, 108, 101, 95, 98, 49]), (.str (Str.mk #[105, 110, 95, 116, 97, 98, 108, 101, 95, 98, 49]) 400), (.ref 64)⟩, ⟨PyData.keyHash P (Str.mk #[87, 104, 105, 116, 101, 115, 112, 97, 99, 101]), (.str (Str.mk #[87, 104, 105, 116, 101, 115, 112, 97, 99, 101]) 498), (.ref 126)⟩] 16), #[]⟩
noncomputable def o29_p2 (P : Params) : Obj := ⟨.none, none, (.fields #[(.int 2 0), (.int 0 0), (.ref 37), (.int 7 0), (.int 0 0), (.ref 45), (.int 21 0), (.int 0 0), (.ref 63), (.int 24 0), (.int 0 0), (.ref 70)]), #[]⟩
noncomputable def o58_p2 (P : Params) : Obj := ⟨(.type PySem.W.SL.s2766695959194262286x5), none, (.seq #[] 0), #[]⟩
noncomputable def o59_p2 (P : Params) : Obj := ⟨.none, none, (.fields #[]), #[]⟩
noncomputable def o60_p2 (P : Params) : Obj := ⟨(.type PySem.W.SL.s2766695959194262286x5), none, (.seq #[(.str (Str.mk #[99, 111, 100, 101]) 397)] 0), #[]⟩
noncomputable def o61_p2 (P : Params) : Obj := ⟨(.type PySem.W.SL.s2766695959194262286x5), none, (.seq #[] 0), #[]⟩
noncomputable def o62_p2 (P : Params) : Obj := ⟨.none, none, (.func ⟨(Str.mk #[105, 110, 95, 116, 97, 98, 108, 101, 95, 98, 49]), (Str.mk #[105, 110, 95, 116, 97, 98, 108, 101, 95, 98, 49]), (fdOf (stm 7)).1, (.stmts (fdOf (stm 7)).2.1), (fdOf (stm 7)).2.2, 0, [], .none, .none, .none, .none, none, .none, .none, 0⟩), #[]⟩
noncomputable def o63_p2 (P : Params) : Obj := ⟨(.type PySem.W.SL.s5856160107412720595x4), none, (.fields #[(.str (Str.mk #[105, 110, 95, 116, 97, 98, 108, 101, 95, 98, 49]) 394), (.str (Str.mk #[105, 110, 95, 116, 97, 98, 108, 101, 95, 98, 49]) 395), (.str (Str.mk #[47, 99, 108, 97, 105, 109, 47, 99, 117, 116, 46, 112, 121]) 396), (.int 21 0), (.int 1 0), (.int 0 0), (.int 0 0), (.int 3 0), (.ref 58), (.bool true), (.int 276 0), (.ref 59), .none, (.ref 60), (.ref 61), (.ref 62), (.int 398 0), (.int 21 0), (.str (Str.mk #[47, 99, 108, 97, 105, 109, 47, 99, 117, 116, 46, 112, 121]) 399)]), #[]⟩
noncomputable def o64_p2 (P : Params) : Obj := ⟨(.type PySem.W.SL.s7174869446012820540x8), none, (.func ⟨(Str.mk #[105, 110, 95, 116, 97, 98, 108, 101, 95, 98, 49]), (Str.mk #[105, 110, 95, 116, 97, 98, 108, 101, 95, 98, 49]), (fdOf (stm 7)).1, (.stmts (fdOf (stm 7)).2.1), (fdOf (stm 7)).2.2, 3, [], .none, .none, .none, (.str (Str.mk #[99, 112, 121, 51, 49, 51, 46, 115, 116, 114, 105, 110, 103, 112, 114, 101, 112]) 332), none, (.ref 63), .none, 0⟩), #[]⟩
noncomputable def o65_p2 (P : Params) : Obj := ⟨(.type PySem.W.SL.s2766695959194262286x5), none, (.seq #[] 0), #[]⟩
noncomputable def o66_p2 (P : Params) : Obj := ⟨(.type PySem.W.SL.s11030030927630378310x26), none, (.fields #[(.builtin PySem.W.SL.s10062305145149207511x16), (.type PySem.W.SL.s17162191345867700912x4)]), #[]⟩
noncomputable def o67_p2 (P : Params) : Obj := ⟨(.type PySem.W.SL.s14018661285674007319x4), none, (.dict #[⟨PyData.keyHash P (Str.mk #[95, 95, 109, 111, 100, 117, 108, 101, 95, 95]), (.str (Str.mk #[95, 95, 109, 111, 100, 117, 108, 101, 95, 95]) 410), (.str (Str.mk #[99, 112, 121, 51, 49, 51, 46, 116, 97, 98, 110, 97, 110, 110, 121]) 401)⟩, ⟨PyData.keyHash P (Str.mk #[95, 95, 113, 117, 97, 108, 110, 97, 109, 101, 95, 95]), (.str (Str.mk #[95, 95, 113, 117, 97, 108, 110, 97, 109, 101, 95, 95]) 412), (.str (Str.mk #[87, 104, 105, 116, 101, 115, 112, 97, 99, 101]) 411)⟩, ⟨PyData.keyHash P (Str.mk #[95, 95, 102, 105, 114, 115, 116, 108, 105, 110, 101, 110, 111, 95, 95]), (.str (Str.mk #[95, 95, 102, 105, 114, 115, 116, 108, 105, 110, 101, 110, 111, 95, 95]) 414), (.int 24 413)⟩, ⟨PyData.keyHash P (Str.mk #[83]), (.str (Str.mk #[83]) 418), (.str (Str.mk #[32]) 416)⟩, ⟨PyData.keyHash P (Str.mk #[84]), (.str (Str.mk #[84]) 419), (.str (Str.mk #[9]) 417)⟩, ⟨PyData.keyHash P (Str.mk #[95, 95, 105, 110, 105, 116, 95, 95]), (.str (Str.mk #[95, 95, 105, 110, 105, 116, 95, 95]) 434), (.ref 81)⟩, ⟨PyData.keyHash P (Str.mk #[108, 111, 110, 103, 101, 115, 116, 95, 114, 117, 110, 95, 111, 102, 95, 115, 112, 97, 99, 101, 115]), (.str (Str.mk #[108, 111, 110, 103, 101, 115, 116, 95, 114, 117, 110, 95, 111, 102, 95, 115, 112, 97, 99, 101, 115]) 441), (.ref 88)⟩, ⟨PyData.keyHash P (Str.mk #[105, 110, 100, 101, 110, 116, 95, 108, 101, 118, 101, 108]), (.str (Str.mk #[105, 110, 100, 101, 110, 116, 95, 108, 101, 118, 101, 108]) 453), (.ref 95)⟩, ⟨PyData.keyHash P (Str.mk #[101, 113, 117, 97, 108]), (.str (Str.mk #[101, 113, 117, 97, 108]) 461), (.ref 102)⟩, ⟨PyData.keyHash P (Str.mk #[110, 111, 116, 95, 101, 113, 117, 97, 108, 95, 119, 105, 116, 110, 101, 115, 115]), (.str (Str.mk #[110, 111, 116, 95, 101, 113, 117, 97, 108, 95, 119, 105, 116, 110, 101, 115, 115]) 469), (.ref 109)⟩, ⟨PyData.keyHash P (Str.mk #[108, 101, 115, 115]), (.str (Str.mk #[108, 101, 115, 115]) 477), (.ref 116)⟩, ⟨PyData.keyHash P (Str.mk #[110, 111, 116, 95, 108, 101, 115, 115, 95, 119, 105, 116, 110, 101, 115, 115]), (.str (Str.mk #[110, 111, 116, 95, 108, 101, 115, 115, 95, 119, 105, 116, 110, 101, 115, 115]) 485), (.ref 123)⟩, ⟨PyData.keyHash P (Str.mk #[95, 95, 115, 116, 97, 116, 105, 99, 95, 97, 116, 116, 114, 105, 98, 117, 116, 101, 115, 95, 95]), (.str (Str.mk #[95, 95, 115, 116, 97, 116, 105, 99, 95, 97, 116, 116, 114, 105, 98, 117, 116, 101, 115, 95, 95]) 491), (.ref 124)⟩] 13), #[]⟩
noncomputable def o68_p2 (P : Params) : Obj := ⟨(.type PySem.W.SL.s2766695959194262286x5), none, (.seq #[] 0), #[]⟩
noncomputable def o69_p2 (P : Params) : Obj := ⟨.none, none, (.fields #[(.int 27 0), (.int 4 0), (.ref 80), (.int 50 0), (.int 4 0), (.ref 87), (.int 53 0), (.int 4 0), (.ref 94), (.int 60 0), (.int 4 0), (.ref 101), (.int 63 0), (.int 4 0), (.ref 108), (.int 66 0), (.int 4 0), (.ref 115), (.int 69 0), (.int 4 0), (.ref 122)]), #[]⟩
noncomputable def o70_p2 (P : Params) : Obj := ⟨(.type PySem.W.SL.s5856160107412720595x4), none, (.fields #[(.str (Str.mk #[87, 104, 105, 116, 101, 115, 112, 97, 99, 101]) 405), (.str (Str.mk #[87, 104, 105, 116, 101, 115, 112, 97, 99, 101]) 406), (.str (Str.mk #[47, 99, 108, 97, 105, 109, 47, 99, 117, 116, 46, 112, 121]) 407), (.int 24 0), (.int 0 0), (.int 0 0), (.int 0 0), (.int 0 0), (.ref 68), (.bool false), (.int 276 0), (.ref 69), .none, .none, .none, .none, (.int 408 0), (.int 24 0), (.str (Str.mk #[47, 99, 108, 97, 105, 109, 47, 99, 117, 116, 46, 112, 121]) 409)]), #[]⟩
noncomputable def o71_p2 (P : Params) : Obj := ⟨(.type PySem.W.SL.s658472552662922059x5), none, .plain, #[(some (.ref 70)), (some (.ref 3)), (some (.ref 67)), none, (some (.str (Str.mk #[99, 112, 121, 51, 49, 51, 46, 116, 97, 98, 110, 97, 110, 110, 121]) 401)), none, (some (.ref 0))]⟩
noncomputable def o72_p2 (P : Params) : Obj := ⟨(.type PySem.W.SL.s13500813778147066322x18), none, (.fields #[.none, (.int 2 0)]), #[]⟩
noncomputable def o73_p2 (P : Params) : Obj := ⟨(.type PySem.W.SL.s2766695959194262286x5), none, (.seq #[] 0), #[]⟩
noncomputable def o74_p2 (P : Params) : Obj := ⟨(.type PySem.W.SL.s5991306692159431302x13), none, (.fields #[(.ref 73), .none, .none, .none, (.bool false), .none]), #[]⟩
noncomputable def o75_p2 (P : Params) : Obj := ⟨(.type PySem.W.SL.s2766695959194262286x5), none, (.seq #[] 0), #[]⟩
noncomputable def o76_p2 (P : Params) : Obj := ⟨.none, none, (.fields #[]), #[]⟩
noncomputable def o77_p2 (P : Params) : Obj := ⟨(.type PySem.W.SL.s2766695959194262286x5), none, (.seq #[(.str (Str.mk #[115, 101, 108, 102]) 423), (.str (Str.mk #[119, 115]) 424), (.str (Str.mk #[83]) 425), (.str (Str.mk #[84]) 426), (.str (Str.mk #[99, 111, 117, 110, 116]) 427), (.str (Str.mk #[98]) 428), (.str (Str.mk #[110]) 429), (.str (Str.mk #[110, 116]) 430), (.str (Str.mk #[99, 104]) 431)] 0), #[]⟩
noncomputable def o78_p2 (P : Params) : Obj := ⟨(.type PySem.W.SL.s2766695959194262286x5), none, (.seq #[] 0), #[]⟩
noncomputable def o79_p2 (P : Params) : Obj := ⟨.none, none, (.func ⟨(Str.mk #[95, 95, 105, 110, 105, 116, 95, 95]), (Str.mk #[87, 104, 105, 116, 101, 115, 112, 97, 99, 101, 46, 95, 95, 105, 110, 105, 116, 95, 95]), (fdOf (mth 9 1)).1, (.stmts (fdOf (mth 9 1)).2.1), (fdOf (mth 9 1)).2.2, 0, [], .none, .none, .none, .none, none, .none, .none, 0⟩), #[]⟩
noncomputable def o80_p2 (P : Params) : Obj := ⟨(.type PySem.W.SL.s5856160107412720595x4), none, (.fields #[(.str (Str.mk #[95, 95, 105, 110, 105, 116, 95, 95]) 420), (.str (Str.mk #[87, 104, 105, 116, 101, 115, 112, 97, 99, 101, 46, 95, 95, 105, 110, 105, 116, 95, 95]) 421), (.str (Str.mk #[47, 99, 108, 97, 105, 109, 47, 99, 117, 116, 46, 112, 121]) 422), (.int 27 0), (.int 2 0), (.int 0 0), (.int 0 0), (.int 3 0), (.ref 75), (.bool true), (.int 276 0), (.ref 76), .none, (.ref 77), (.ref 78), (.ref 79), (.int 432 0), (.int 27 0), (.str (Str.mk #[47, 99, 108, 97, 105, 109, 47, 99, 117, 116, 46, 112, 121]) 433)]), #[]⟩
noncomputable def o81_p2 (P : Params) : Obj := ⟨(.type PySem.W.SL.s7174869446012820540x8), none, (.func ⟨(Str.mk #[95, 95, 105, 110, 105, 116, 95, 95]), (Str.mk #[87, 104, 105, 116, 101, 115, 112, 97, 99, 101, 46, 95, 95, 105, 110, 105, 116, 95, 95]), (fdOf (mth 9 1)).1, (.stmts (fdOf (mth 9 1)).2.1), (fdOf (mth 9 1)).2.2, 3, [], .none, .none, .none, (.str (Str.mk #[99, 112, 121, 51, 49, 51, 46, 116, 97, 98, 110, 97, 110, 110, 121]) 401), none, (.ref 80), .none, 0⟩), #[]⟩
noncomputable def o82_p2 (P : Params) : Obj := ⟨(.type PySem.W.SL.s2766695959194262286x5), none, (.seq #[] 0), #[]⟩
noncomputable def o83_p2 (P : Params) : Obj := ⟨.none, none, (.fields #[]), #[]⟩
noncomputable def o84_p2 (P : Params) : Obj := ⟨(.type PySem.W.SL.s2766695959194262286x5), none, (.seq #[(.str (Str.mk #[115, 101, 108, 102]) 438)] 0), #[]⟩
noncomputable def o85_p2 (P : Params) : Obj := ⟨(.type PySem.W.SL.s2766695959194262286x5), none, (.seq #[] 0), #[]⟩
noncomputable def o86_p2 (P : Params) : Obj := ⟨.none, none, (.func ⟨(Str.mk #[108, 111, 110, 103, 101, 115, 116, 95, 114, 117, 110, 95, 111, 102, 95, 115, 112, 97, 99, 101, 115]), (Str.mk #[87, 104, 105, 116, 101, 115, 112, 97, 99, 101, 46, 108, 111, 110, 103, 101, 115, 116, 95, 114, 117, 110, 95, 111, 102, 95, 115, 112, 97, 99, 101, 115]), (fdOf (mth 9 2)).1, (.stmts (fdOf (mth 9 2)).2.1), (fdOf (mth 9 2)).2.2, 0, [], .none, .none, .none, .none, none, .none, .none, 0⟩), #[]⟩
noncomputable def o87_p2 (P : Params) : Obj := ⟨(.type PySem.W.SL.s5856160107412720595x4), none, (.fields #[(.str (Str.mk #[108, 111, 110, 103, 101, 115, 116, 95, 114, 117, 110, 95, 111, 102, 95, 115, 112, 97, 99, 101, 115]) 435), (.str (Str.mk #[87, 104, 105, 116, 101, 115, 112, 97, 99, 101, 46, 108, 111, 110, 103, 101, 115, 116, 95, 114, 117, 110, 95, 111, 102, 95, 115, 112, 97, 99, 101, 115]) 436), (.str (Str.mk #[47, 99, 108, 97, 105, 109, 47, 99, 117, 116, 46, 112, 121]) 437), (.int 50 0), (.int 1 0), (.int 0 0), (.int 0 0), (.int 3 0), (.ref 82), (.bool true), (.int 276 0), (.ref 83), .none, (.ref 84), (.ref 85), (.ref 86), (.int 439 0), (.int 50 0), (.str (Str.mk #[47, 99, 108, 97, 105, 109, 47, 99, 117, 116, 46, 112, 121]) 440)]), #[]⟩
noncomputable def o88_p2 (P : Params) : Obj := ⟨(.type PySem.W.SL.s7174869446012820540x8), none, (.func ⟨(Str.mk #[108, 111, 110, 103, 101, 115, 116, 95, 114, 117, 110, 95, 111, 102, 95, 115, 112, 97, 99, 101, 115]), (Str.mk #[87, 104, 105, 116, 101, 115, 112, 97, 99, 101, 46, 108, 111, 110, 103, 101, 115, 116, 95, 114, 117, 110, 95, 111, 102, 95, 115, 112, 97, 99, 101, 115]), (fdOf (mth 9 2)).1, (.stmts (fdOf (mth 9 2)).2.1), (fdOf (mth 9 2)).2.2, 3, [], .none, .none, .none, (.str (Str.mk #[99, 112, 121, 51, 49, 51, 46, 116, 97, 98, 110, 97, 110, 110, 121]) 401), none, (.ref 87), .none, 0⟩), #[]⟩
noncomputable def o89_p2 (P : Params) : Obj := ⟨(.type PySem.W.SL.s2766695959194262286x5), none, (.seq #[] 0), #[]⟩
noncomputable def o90_p2 (P : Params) : Obj := ⟨.none, none, (.fields #[]), #[]⟩
noncomputable def o91_p2 (P : Params) : Obj := ⟨(.type PySem.W.SL.s2766695959194262286x5), none, (.seq #[(.str (Str.mk #[115, 101, 108, 102]) 445), (.str (Str.mk #[116, 97, 98, 115, 105, 122, 101]) 446), (.str (Str.mk #[99, 111, 117, 110, 116]) 447), (.str (Str.mk #[116, 114, 97, 105, 108, 105, 110, 103]) 448), (.str (Str.mk #[105, 108]) 449), (.str (Str.mk #[105]) 450)] 0), #[]⟩
noncomputable def o92_p2 (P : Params) : Obj := ⟨(.type PySem.W.SL.s2766695959194262286x5), none, (.seq #[] 0), #[]⟩
noncomputable def o93_p2 (P : Params) : Obj := ⟨.none, none, (.func ⟨(Str.mk #[105, 110, 100, 101, 110, 116, 95, 108, 101, 118, 101, 108]), (Str.mk #[87, 104, 105, 116, 101, 115, 112, 97, 99, 101, 46, 105, 110, 100, 101, 110, 116, 95, 108, 101, 118, 101, 108]), (fdOf (mth 9 3)).1, (.stmts (fdOf (mth 9 3)).2.1), (fdOf (mth 9 3)).2.2, 0, [], .none, .none, .none, .none, none, .none, .none, 0⟩), #[]⟩
noncomputable def o94_p2 (P : Params) : Obj := ⟨(.type PySem.W.SL.s5856160107412720595x4), none, (.fields #[(.str (Str.mk #[105, 110, 100, 101, 110, 116, 95, 108, 101, 118, 101, 108]) 442), (.str (Str.mk #[87, 104, 105, 116, 101, 115, 112, 97, 99, 101, 46, 105, 110, 100, 101, 110, 116, 95, 108, 101, 118, 101, 108]) 443), (.str (Str.mk #[47, 99, 108, 97, 105, 109, 47, 99, 117, 116, 46, 112, 121]) 444), (.int 53 0), (.int 2 0), (.int 0 0), (.int 0 0), (.int 3 0), (.ref 89), (.bool true), (.int 276 0), (.ref 90), .none, (.ref 91), (.ref 92), (.ref 93), (.int 451 0), (.int 53 0), (.str (Str.mk #[47, 99, 108, 97, 105, 109, 47, 99, 117, 116, 46, 112, 121]) 452)]), #[]⟩
noncomputable def o95_p2 (P : Params) : Obj := ⟨(.type PySem.W.SL.s7174869446012820540x8), none, (.func ⟨(Str.mk #[105, 110, 100, 101, 110, 116, 95, 108, 101, 118, 101, 108]), (Str.mk #[87, 104, 105, 116, 101, 115, 112, 97, 99, 101, 46, 105, 110, 100, 101, 110, 116, 95, 108, 101, 118, 101, 108]), (fdOf (mth 9 3)).1, (.stmts (fdOf (mth 9 3)).2.1), (fdOf (mth 9 3)).2.2, 3, [], .none, .none, .none, (.str (Str.mk #[99, 112, 121, 51, 49, 51, 46, 116, 97, 98, 110, 97, 110, 110, 121]) 401), none, (.ref 94), .none, 0⟩), #[]⟩
noncomputable def o96_p2 (P : Params) : Obj := ⟨(.type PySem.W.SL.s2766695959194262286x5), none, (.seq #[] 0), #[]⟩
noncomputable def o97_p2 (P : Params) : Obj := ⟨.none, none, (.fields #[]), #[]⟩
noncomputable def o98_p2 (P : Params) : Obj := ⟨(.type PySem.W.SL.s2766695959194262286x5), none, (.seq #[(.str (Str.mk #[115, 101, 108, 102]) 457), (.str (Str.mk #[111, 116, 104, 101, 114]) 458)] 0), #[]⟩
noncomputable def o99_p2 (P : Params) : Obj := ⟨(.type PySem.W.SL.s2766695959194262286x5), none, (.seq #[] 0), #[]⟩
noncomputable def o100_p2 (P : Params) : Obj := ⟨.none, none, (.func ⟨(Str.mk #[101, 113, 117, 97, 108]), (Str.mk #[87, 104, 105, 116, 101, 115, 112, 97, 99, 101, 46, 101, 113, 117, 97, 108]), (fdOf (mth 9 4)).1, (.stmts (fdOf (mth 9 4)).2.1), (fdOf (mth 9 4)).2.2, 0, [], .none, .none, .none, .none, none, .none, .none, 0⟩), #[]⟩
noncomputable def o101_p2 (P : Params) : Obj := ⟨(.type PySem.W.SL.s5856160107412720595x4), none, (.fields #[(.str (Str.mk #[101, 113, 117, 97, 108]) 454), (.str (Str.mk #[87, 104, 105, 116, 101, 115, 112, 97, 99, 101, 46, 101, 113, 117, 97, 108]) 455), (.str (Str.mk #[47, 99, 108, 97, 105, 109, 47, 99, 117, 116, 46, 112, 121]) 456), (.int 60 0), (.int 2 0), (.int 0 0), (.int 0 0), (.int 3 0), (.ref 96), (.bool true), (.int 276 0), (.ref 97), .none, (.ref 98), (.ref 99), (.ref 100), (.int 459 0), (.int 60 0), (.str (Str.mk #[47, 99, 108, 97, 105, 109, 47, 99, 117, 116, 46, 112, 121]) 460)]), #[]⟩
noncomputable def o102_p2 (P : Params) : Obj := ⟨(.type PySem.W.SL.s7174869446012820540x8), none, (.func ⟨(Str.mk #[101, 113, 117, 97, 108]), (Str.mk #[87, 104, 105, 116, 101, 115, 112, 97, 99, 101, 46, 101, 113, 117, 97, 108]), (fdOf (mth 9 4)).1, (.stmts (fdOf (mth 9 4)).2.1), (fdOf (mth 9 4)).2.2, 3, [], .none, .none, .none, (.str (Str.mk #[99, 112, 121, 51, 49, 51, 46, 116, 97, 98, 110, 97, 110, 110, 121]) 401), none, (.ref 101), .none, 0⟩), #[]⟩
noncomputable def o103_p2 (P : Params) : Obj := ⟨(.type PySem.W.SL.s2766695959194262286x5), none, (.seq #[] 0), #[]⟩
noncomputable def o104_p2 (P : Params) : Obj := ⟨.none, none, (.fields #[]), #[]⟩
noncomputable def o105_p2 (P : Params) : Obj := ⟨(.type PySem.W.SL.s2766695959194262286x5), none, (.seq #[(.str (Str.mk #[115, 101, 108, 102]) 465), (.str (Str.mk #[111, 116, 104, 101, 114]) 466)] 0), #[]⟩
noncomputable def o106_p2 (P : Params) : Obj := ⟨(.type PySem.W.SL.s2766695959194262286x5), none, (.seq #[] 0), #[]⟩
noncomputable def o107_p2 (P : Params) : Obj := ⟨.none, none, (.func ⟨(Str.mk #[110, 111, 116, 95, 101, 113, 117, 97, 108, 95, 119, 105, 116, 110, 101, 115, 115]), (Str.mk #[87, 104, 105, 116, 101, 115, 112, 97, 99, 101, 46, 110, 111, 116, 95, 101, 113, 117, 97, 108, 95, 119, 105, 116, 110, 101, 115, 115]), (fdOf (mth 9 5)).1, (.stmts (fdOf (mth 9 5)).2.1), (fdOf (mth 9 5)).2.2, 0, [], .none, .none, .none, .none, none, .none, .none, 0⟩), #[]⟩
noncomputable def o108_p2 (P : Params) : Obj := ⟨(.type PySem.W.SL.s5856160107412720595x4), none, (.fields #[(.str (Str.mk #[110, 111, 116, 95, 101, 113, 117, 97, 108, 95, 119, 105, 116, 110, 101, 115, 115]) 462), (.str (Str.mk #[87, 104, 105, 116, 101, 115, 112, 97, 99, 101, 46, 110, 111, 116, 95, 101, 113, 117, 97, 108, 95, 119, 105, 116, 110, 101, 115, 115]) 463), (.str (Str.mk #[47, 99, 108, 97, 105, 109, 47, 99, 117, 116, 46, 112, 121]) 464), (.int 63 0), (.int 2 0), (.int 0 0), (.int 0 0), (.int 3 0), (.ref 103), (.bool true), (.int 276 0), (.ref 104), .none, (.ref 105), (.ref 106), (.ref 107), (.int 467 0), (.int 63 0), (.str (Str.mk #[47, 99, 108, 97, 105, 109, 47, 99, 117, 116, 46, 112, 121]) 468)]), #[]⟩
noncomputable def o109_p2 (P : Params) : Obj := ⟨(.type PySem.W.SL.s7174869446012820540x8), none, (.func ⟨(Str.mk #[110, 111, 116, 95, 101, 113, 117, 97, 108, 95, 119, 105, 116, 110, 101, 115, 115]), (Str.mk #[87, 104, 105, 116, 101, 115, 112, 97, 99, 101, 46, 110, 111, 116, 95, 101, 113, 117, 97, 108, 95, 119, 105, 116, 110, 101, 115, 115]), (fdOf (mth 9 5)).1, (.stmts (fdOf (mth 9 5)).2.1), (fdOf (mth 9 5)).2.2, 3, [], .none, .none, .none, (.str (Str.mk #[99, 112, 121, 51, 49, 51, 46, 116, 97, 98, 110, 97, 110, 110, 121]) 401), none, (.ref 108), .none, 0⟩), #[]⟩
noncomputable def o110_p2 (P : Params) : Obj := ⟨(.type PySem.W.SL.s2766695959194262286x5), none, (.seq #[] 0), #[]⟩
noncomputable def o111_p2 (P : Params) : Obj := ⟨.none, none, (.fields #[]), #[]⟩
noncomputable def o112_p2 (P : Params) : Obj := ⟨(.type PySem.W.SL.s2766695959194262286x5), none, (.seq #[(.str (Str.mk #[115, 101, 108, 102]) 473), (.str (Str.mk #[111, 116, 104, 101, 114]) 474)] 0), #[]⟩
noncomputable def o113_p2 (P : Params) : Obj := ⟨(.type PySem.W.SL.s2766695959194262286x5), none, (.seq #[] 0), #[]⟩
noncomputable def o114_p2 (P : Params) : Obj := ⟨.none, none, (.func ⟨(Str.mk #[108, 101, 115, 115]), (Str.mk #[87, 104, 105, 116, 101, 115, 112, 97, 99, 101, 46, 108, 101, 115, 115]), (fdOf (mth 9 6)).1, (.stmts (fdOf (mth 9 6)).2.1), (fdOf (mth 9 6)).2.2, 0, [], .none, .none, .none, .none, none, .none, .none, 0⟩), #[]⟩
noncomputable def o115_p2 (P : Params) : Obj := ⟨(.type PySem.W.SL.s5856160107412720595x4), none, (.fields #[(.str (Str.mk #[108, 101, 115, 115]) 470), (.str (Str.mk #[87, 104, 105, 116, 101, 115, 112, 97, 99, 101, 46, 108, 101, 115, 115]) 471), (.str (Str.mk #[47, 99, 108, 97, 105, 109, 47, 99, 117, 116, 46, 112, 121]) 472), (.int 66 0), (.int 2 0), (.int 0 0), (.int 0 0), (.int 3 0), (.ref 110), (.bool true), (.int 276 0), (.ref 111), .none, (.ref 112), (.ref 113), (.ref 114), (.int 475 0), (.int 66 0), (.str (Str.mk #[47, 99, 108, 97, 105, 109, 47, 99, 117, 116, 46, 112, 121]) 476)]), #[]⟩
noncomputable def o116_p2 (P : Params) : Obj := ⟨(.type PySem.W.SL.s7174869446012820540x8), none, (.func ⟨(Str.mk #[108, 101, 115, 115]), (Str.mk #[87, 104, 105, 116, 101, 115, 112, 97, 99, 101, 46, 108, 101, 115, 115]), (fdOf (mth 9 6)).1, (.stmts (fdOf (mth 9 6)).2.1), (fdOf (mth 9 6)).2.2, 3, [], .none, .none, .none, (.str (Str.mk #[99, 112, 121, 51, 49, 51, 46, 116, 97, 98, 110, 97, 110, 110, 121]) 401), none, (.ref 115), .none, 0⟩), #[]⟩
noncomputable def o117_p2 (P : Params) : Obj := ⟨(.type PySem.W.SL.s2766695959194262286x5), none, (.seq #[] 0), #[]⟩
noncomputable def o118_p2 (P : Params) : Obj := ⟨.none, none, (.fields #[]), #[]⟩
noncomputable def o119_p2 (P : Params) : Obj := ⟨(.type PySem.W.SL.s2766695959194262286x5), none, (.seq #[(.str (Str.mk #[115, 101, 108, 102]) 481), (.str (Str.mk #[111, 116, 104, 101, 114]) 482)] 0), #[]⟩
noncomputable def o120_p2 (P : Params) : Obj := ⟨(.type PySem.W.SL.s2766695959194262286x5), none, (.seq #[] 0), #[]⟩
noncomputable def o121_p2 (P : Params) : Obj := ⟨.none, none, (.func ⟨(Str.mk #[110, 111, 116, 95, 108, 101, 115, 115, 95, 119, 105, 116, 110, 101, 115, 115]), (Str.mk #[87, 104, 105, 116, 101, 115, 112, 97, 99, 101, 46, 110, 111, 116, 95, 108, 101, 115, 115, 95, 119, 105, 116, 110, 101, 115, 115]), (fdOf (mth 9 7)).1, (.stmts (fdOf (mth 9 7)).2.1), (fdOf (mth 9 7)).2.2, 0, [], .none, .none, .none, .none, none, .none, .none, 0⟩), #[]⟩
noncomputable def o122_p2 (P : Params) : Obj := ⟨(.type PySem.W.SL.s5856160107412720595x4), none, (.fields #[(.str (Str.mk #[110, 111, 116, 95, 108, 101, 115, 115, 95, 119, 105, 116, 110, 101, 115, 115]) 478), (.str (Str.mk #[87, 104, 105, 116, 101, 115, 112, 97, 99, 101, 46, 110, 111, 116, 95, 108, 101, 115, 115, 95, 119, 105, 116, 110, 101, 115, 115]) 479), (.str (Str.mk #[47, 99, 108, 97, 105, 109, 47, 99, 117, 116, 46, 112, 121]) 480), (.int 69 0), (.int 2 0), (.int 0 0), (.int 0 0), (.int 3 0), (.ref 117), (.bool true), (.int 276 0), (.ref 118), .none, (.ref 119), (.ref 120), (.ref 121), (.int 483 0), (.int 69 0), (.str (Str.mk #[47, 99, 108, 97, 105, 109, 47, 99, 117, 116, 46, 112, 121]) 484)]), #[]⟩
noncomputable def o123_p2 (P : Params) : Obj := ⟨(.type PySem.W.SL.s7174869446012820540x8), none, (.func ⟨(Str.mk #[110, 111, 116, 95, 108, 101, 115, 115, 95, 119, 105, 116, 110, 101, 115, 115]), (Str.mk #[87, 104, 105, 116, 101, 115, 112, 97, 99, 101, 46, 110, 111, 116, 95, 108, 101, 115, 115, 95, 119, 105, 116, 110, 101, 115, 115]), (fdOf (mth 9 7)).1, (.stmts (fdOf (mth 9 7)).2.1), (fdOf (mth 9 7)).2.2, 3, [], .none, .none, .none, (.str (Str.mk #[99, 112, 121, 51, 49, 51, 46, 116, 97, 98, 110, 97, 110, 110, 121]) 401), none, (.ref 122), .none, 0⟩), #[]⟩
noncomputable def o124_p2 (P : Params) : Obj := ⟨(.type PySem.W.SL.s2766695959194262286x5), none, (.seq #[(.str (Str.mk #[105, 115, 95, 115, 105, 109, 112, 108, 101]) 486), (.str (Str.mk #[110]) 487), (.str (Str.mk #[110, 111, 114, 109]) 488), (.str (Str.mk #[110, 116]) 489), (.str (Str.mk #[114, 97, 119]) 490)] 0), #[]⟩
noncomputable def o125_p2 (P : Params) : Obj := ⟨(.type PySem.W.SL.s14018661285674007319x4), none, (.dict #[⟨PyData.keyHash P (Str.mk #[95, 95, 109, 111, 100, 117, 108, 101, 95, 95]), (.str (Str.mk #[95, 95, 109, 111, 100, 117, 108, 101, 95, 95]) 410), (.str (Str.mk #[99, 112, 121, 51, 49, 51, 46, 116, 97, 98, 110, 97, 110, 110, 121]) 401)⟩, ⟨PyData.keyHash P (Str.mk #[95, 95, 102, 105, 114, 115, 116, 108, 105, 110, 101, 110, 111, 95, 95]), (.str (Str.mk #[95, 95, 102, 105, 114, 115, 116, 108, 105, 110, 101, 110, 111, 95, 95]) 414), (.int 24 413)⟩, ⟨PyData.keyHash P (Str.mk #[83]), (.str (Str.mk #[83]) 418), (.str (Str.mk #[32]) 416)⟩, ⟨PyData.keyHash P (Str.mk #[84]), (.str (Str.mk #[84]) 419), (.str (Str.mk #[9]) 417)⟩, ⟨PyData.keyHash P (Str.mk #[95, 95, 105, 110, 105, 116, 95, 95]), (.str (Str.mk #[95, 95, 105, 110, 105, 116, 95, 95]) 434), (.ref 81)⟩, ⟨PyData.keyHash P (Str.mk #[108, 111, 110, 103, 101, 115, 116, 95, 114, 117, 110, 95, 111, 102, 95, 115, 112, 97, 99, 101, 115]), (.str (Str.mk #[108, 111, 110, 103, 101, 115, 116, 95, 114, 117, 110, 95, 111, 102, 95, 115, 112, 97, 99, 101, 115]) 441), (.ref 88)⟩, ⟨PyData.keyHash P (Str.mk #[105, 110, 100, 101, 110, 116, 95, 108, 101, 118, 101, 108]), (.str (Str.mk #[105, 110, 100, 101, 110, 116, 95, 108, 101, 118, 101, 108]) 453), (.ref 95)⟩, ⟨PyData.keyHash P (Str.mk #[101, 113, 117, 97, 108]), (.str (Str.mk #[101, 113, 117, 97, 108]) 461), (.ref 102)⟩, ⟨PyData.keyHash P (Str.mk #[110, 111, 116, 95, 101, 113, 117, 97, 108, 95, 119, 105, 116, 110, 101, 115, 115]), (.str (Str.mk #[110, 111, 116, 95, 101, 113, 117, 97, 108, 95, 119, 105, 116, 110, 101, 115, 115]) 469), (.ref 109)⟩, ⟨PyData.keyHash P (Str.mk #[108, 101, 115, 115]), (.str (Str.mk #[108, 101, 115, 115]) 477), (.ref 116)⟩, ⟨PyData.keyHash P (Str.mk #[110, 111, 116, 95, 108, 101, 115, 115, 95, 119, 105, 116, 110, 101, 115, 115]), (.str (Str.mk #[110, 111, 116, 95, 108, 101, 115, 115, 95, 119, 105, 116, 110, 101, 115, 115]) 485), (.ref 123)⟩, ⟨PyData.keyHash P (Str.mk #[95, 95, 115, 116, 97, 116, 105, 99, 95, 97, 116, 116, 114, 105, 98, 117, 116, 101, 115, 95, 95]), (.str (Str.mk #[95, 95, 115, 116, 97, 116, 105, 99, 95, 97, 116, 116, 114, 105, 98, 117, 116, 101, 115, 95, 95]) 491), (.ref 124)⟩, ⟨PyData.keyHash P (Str.mk #[95, 95, 100, 105, 99, 116, 95, 95]), (.str (Str.mk #[95, 95, 100, 105, 99, 116, 95, 95]) 493), (.ref 127)⟩, ⟨PyData.keyHash P (Str.mk #[95, 95, 119, 101, 97, 107, 114, 101, 102, 95, 95]), (.str (Str.mk #[95, 95, 119, 101, 97, 107, 114, 101, 102, 95, 95]) 495), (.ref 128)⟩, ⟨PyData.keyHash P (Str.mk #[95, 95, 100, 111, 99, 95, 95]), (.str (Str.mk #[95, 95, 100, 111, 99, 95, 95]) 496), .none⟩] 4), #[]⟩
noncomputable def o126_p2 (P : Params) : Obj := ⟨(.type PySem.W.SL.s17162191345867700912x4), none, (.cls ⟨(Str.mk #[87, 104, 105, 116, 101, 115, 112, 97, 99, 101]), [(.type PySem.W.SL.s2742458400755230247x6)], [(.ref 126), (.type PySem.W.SL.s2742458400755230247x6)], 125, (Str.mk #[87, 104, 105, 116, 101, 115, 112, 97, 99, 101]), true, [], [], false, none, false⟩), #[none, none, (some (.str (Str.mk #[87, 104, 105, 116, 101, 115, 112, 97, 99, 101]) 403)), (some (.str (Str.mk #[87, 104, 105, 116, 101, 115, 112, 97, 99, 101]) 411)), (some (.builtin PySem.W.SL.s11443829558043349243x14)), (some (.bool true))]⟩
noncomputable def o127_p2 (P : Params) : Obj := ⟨(.type PySem.W.SL.s14755015743595814543x17), none, (.fields #[(.str (Str.mk #[95, 95, 100, 105, 99, 116, 95, 95]) 492), (.ref 126), (.builtin PySem.W.SL.s6511155373996960695x17), (.builtin PySem.W.SL.s12411053484034534018x21)]), #[]⟩
noncomputable def o128_p2 (P : Params) : Obj := ⟨(.type PySem.W.SL.s14755015743595814543x17), none, (.fields #[(.str (Str.mk #[95, 95, 119, 101, 97, 107, 114, 101, 102, 95, 95]) 494), (.ref 126), (.builtin PySem.W.SL.s10220274742760427390x26), .none]), #[]⟩
noncomputable def o129_p2 (P : Params) : Obj := ⟨(.type PySem.W.SL.s4290257624100764138x5), none, (.fields #[(.ref 126), (.ref 126), (.ref 126)]), #[]⟩
noncomputable def o130_p2 (P : Params) : Obj := ⟨(.type PySem.W.SL.s11030030927630378310x26), none, (.fields #[(.builtin PySem.W.SL.s4860613602091757760x24), (.ref 126)]), #[]⟩
noncomputable def tr_p2_c12 (P : Params) : BT := (.node (o15_e P) (.node (o31_a P) (.node (o63_p2 P) (.node (o127_p2 P) .nil .nil) .nil) (.node (o95_p2 P) .nil .nil)) (.node (o47_p1 P) (.node (o79_p2 P) .nil .nil) (.node (o111_p2 P) .nil .nil)))
noncomputable def tr_p2_c13 (P : Params) : BT := (.node (o23_e P) (.node (o39_p0 P) (.node (o71_p2 P) .nil .nil) (.node (o103_p2 P) .nil .nil)) (.node (o55_p1 P) (.node (o87_p2 P) .nil .nil) (.node (o119_p2 P) .nil .nil)))
noncomputable def tr_p2_c14 (P : Params) : BT := (.node (o19_e P) (.node (o35_p0 P) (.node (o67_p2 P) .nil .nil) (.node (o99_p2 P) .nil .nil)) (.node (o51_p1 P) (.node (o83_p2 P) .nil .nil) (.node (o115_p2 P) .nil .nil)))
noncomputable def tr_p2_c15 (P : Params) : BT := (.node (o27_e P) (.node (o43_p0 P) (.node (o75_p2 P) .nil .nil) (.node (o107_p2 P) .nil .nil)) (.node (o59_p2 P) (.node (o91_p2 P) .nil .nil) (.node (o123_p2 P) .nil .nil)))
noncomputable def tr_p2_c16 (P : Params) : BT := (.node (o3_p2 P) (.node (o7_e P) (tr_p2_c12 P) (tr_p2_c13 P)) (.node (o11_s P) (tr_p2_c14 P) (tr_p2_c15 P)))
noncomputable def tr_p2_c17 (P : Params) : BT := (.node (o17_e P) (.node (o33_p0 P) (.node (o65_p2 P) (.node (o129_p2 P) .nil .nil) .nil) (.node (o97_p2 P) .nil .nil)) (.node (o49_p1 P) (.node (o81_p2 P) .nil .nil) (.node (o113_p2 P) .nil .nil)))
noncomputable def tr_p2_c18 (P : Params) : BT := (.node (o25_e P) (.node (o41_p0 P) (.node (o73_p2 P) .nil .nil) (.node (o105_p2 P) .nil .nil)) (.node (o57_p1 P) (.node (o89_p2 P) .nil .nil) (.node (o121_p2 P) .nil .nil)))
noncomputable def tr_p2_c19 (P : Params) : BT := (.node (o21_e P) (.node (o37_p0 P) (.node (o69_p2 P) .nil .nil) (.node (o101_p2 P) .nil .nil)) (.node (o53_p1 P) (.node (o85_p2 P) .nil .nil) (.node (o117_p2 P) .nil .nil)))
noncomputable def tr_p2_c20 (P : Params) : BT := (.node (o29_p2 P) (.node (o45_p0 P) (.node (o77_p2 P) .nil .nil) (.node (o109_p2 P) .nil .nil)) (.node (o61_p2 P) (.node (o93_p2 P) .nil .nil) (.node (o125_p2 P) .nil .nil)))
noncomputable def tr_p2_c21 (P : Params) : BT := (.node (o5_e P) (.node (o9_e P) (tr_p2_c17 P) (tr_p2_c18 P)) (.node (o13_e P) (tr_p2_c19 P) (tr_p2_c20 P)))
noncomputable def tr_p2_c22 (P : Params) : BT := (.node (o16_e P) (.node (o32_p0 P) (.node (o64_p2 P) (.node (o128_p2 P) .nil .nil) .nil) (.node (o96_p2 P) .nil .nil)) (.node (o48_p1 P) (.node (o80_p2 P) .nil .nil) (.node (o112_p2 P) .nil .nil)))
noncomputable def tr_p2_c23 (P : Params) : BT := (.node (o24_e P) (.node (o40_p0 P) (.node (o72_p2 P) .nil .nil) (.node (o104_p2 P) .nil .nil)) (.node (o56_p1 P) (.node (o88_p2 P) .nil .nil) (.node (o120_p2 P) .nil .nil)))
noncomputable def tr_p2_c24 (P : Params) : BT := (.node (o20_e P) (.node (o36_p0 P) (.node (o68_p2 P) .nil .nil) (.node (o100_p2 P) .nil .nil)) (.node (o52_p1 P) (.node (o84_p2 P) .nil .nil) (.node (o116_p2 P) .nil .nil)))
noncomputable def tr_p2_c25 (P : Params) : BT := (.node (o28_a P) (.node (o44_p0 P) (.node (o76_p2 P) .nil .nil) (.node (o108_p2 P) .nil .nil)) (.node (o60_p2 P) (.node (o92_p2 P) .nil .nil) (.node (o124_p2 P) .nil .nil)))
noncomputable def tr_p2_c26 (P : Params) : BT := (.node (o4_e P) (.node (o8_e P) (tr_p2_c22 P) (tr_p2_c23 P)) (.node (o12_e P) (tr_p2_c24 P) (tr_p2_c25 P)))
noncomputable def tr_p2_c27 (P : Params) : BT := (.node (o18_e P) (.node (o34_p0 P) (.node (o66_p2 P) (.node (o130_p2 P) .nil .nil) .nil) (.node (o98_p2 P) .nil .nil)) (.node (o50_p1 P) (.node (o82_p2 P) .nil .nil) (.node (o114_p2 P) .nil .nil)))
noncomputable def tr_p2_c28 (P : Params) : BT := (.node (o26_e P) (.node (o42_p0 P) (.node (o74_p2 P) .nil .nil) (.node (o106_p2 P) .nil .nil)) (.node (o58_p2 P) (.node (o90_p2 P) .nil .nil) (.node (o122_p2 P) .nil .nil)))
noncomputable def tr_p2_c29 (P : Params) : BT := (.node (o22_e P) (.node (o38_p0 P) (.node (o70_p2 P) .nil .nil) (.node (o102_p2 P) .nil .nil)) (.node (o54_p1 P) (.node (o86_p2 P) .nil .nil) (.node (o118_p2 P) .nil .nil)))
noncomputable def tr_p2_c30 (P : Params) : BT := (.node (o30_a P) (.node (o46_p0 P) (.node (o78_p2 P) .nil .nil) (.node (o110_p2 P) .nil .nil)) (.node (o62_p2 P) (.node (o94_p2 P) .nil .nil) (.node (o126_p2 P) .nil .nil)))
noncomputable def tr_p2_c31 (P : Params) : BT := (.node (o6_e P) (.node (o10_e P) (tr_p2_c27 P) (tr_p2_c28 P)) (.node (o14_e P) (tr_p2_c29 P) (tr_p2_c30 P)))
noncomputable def tr_p2 (P : Params) : BT := (.node (o0_e P) (.node (o1_e P) (tr_p2_c16 P) (tr_p2_c21 P)) (.node (o2_e P) (tr_p2_c26 P) (tr_p2_c31 P)))
noncomputable def L_p2 (w : World) : OsState → Option (Flow × SharedT × Code × Pos) := fun os => segRunT treeTable pw w 28 (some (.ref 6)) 1 527 ⟨tr_p1 w.params, 58, {}, #[], {}, 394, os⟩ (piecesOf sts2 env0 cd0 ⟨20, 0, 20, 6⟩ fr0)
noncomputable def R_p2 (w : World) : OsState → Option (Flow × SharedT × Code × Pos) := fun os => some (.next, ⟨tr_p2 w.params, 131, {}, #[], {}, 499, os⟩, cd0, ⟨24, 0, 70, 16⟩)
theorem L_p2_self : L_p2 = L_p2 := rfl
theorem R_p2_self : R_p2 = R_p2 := rfl
name_quick L_p2Q for L_p2 by L_p2_self
name_quick R_p2Q for R_p2 by R_p2_self
theorem E_p2 (w : World) : L_p2 w = R_p2 w := by
  rw [PySem.W.Fast.L_p2Q_eq, PySem.W.Fast.R_p2Q_eq]
  exact byRow2 "special-get-raises" (P := fun w => PySem.W.Fast.L_p2Q w = PySem.W.Fast.R_p2Q w) (fun w => by kernel_rfl) (fun w => by kernel_rfl) w
noncomputable def sts3 : List Stmt := [(pw.main.body[10]?).getD default, (pw.main.body[11]?).getD default, (pw.main.body[12]?).getD default, (pw.main.body[13]?).getD default, (pw.main.body[14]?).getD default]
noncomputable def o3_p3 (P : Params) : Obj := ⟨(.type PySem.W.SL.s14018661285674007319x4), none, (.dict #[⟨PyData.keyHash P (Str.mk #[95, 95, 110, 97, 109, 101, 95, 95]), (.str (Str.mk #[95, 95, 110, 97, 109, 101, 95, 95]) 165), (.str (Str.mk #[99, 112, 121, 51, 49, 51, 46, 119, 115, 103, 105, 114, 101, 102, 46, 104, 101, 97, 100, 101, 114, 115]) 499)⟩, ⟨PyData.keyHash P (Str.mk #[95, 95, 100, 111, 99, 95, 95]), (.str (Str.mk #[95, 95, 100, 111, 99, 95, 95]) 166), .none⟩, ⟨PyData.keyHash P (Str.mk #[95, 95, 112, 97, 99, 107, 97, 103, 101, 95, 95]), (.str (Str.mk #[95, 95, 112, 97, 99, 107, 97, 103, 101, 95, 95]) 167), .none⟩, ⟨PyData.keyHash P (Str.mk #[95, 95, 108, 111, 97, 100, 101, 114, 95, 95]), (.str (Str.mk #[95, 95, 108, 111, 97, 100, 101, 114, 95, 95]) 168), (.builtin PySem.W.SL.s7097527257260152453x26)⟩, ⟨PyData.keyHash P (Str.mk #[95, 95, 115, 112, 101, 99, 95, 95]), (.str (Str.mk #[95, 95, 115, 112, 101, 99, 95, 95]) 169), .none⟩, ⟨PyData.keyHash P (Str.mk #[95, 95, 97, 110, 110, 111, 116, 97, 116, 105, 111, 110, 115, 95, 95]), (.str (Str.mk #[95, 95, 97, 110, 110, 111, 116, 97, 116, 105, 111, 110, 115, 95, 95]) 170), (.ref 6)⟩, ⟨PyData.keyHash P (Str.mk #[95, 95, 98, 117, 105, 108, 116, 105, 110, 115, 95, 95]), (.str (Str.mk #[95, 95, 98, 117, 105, 108, 116, 105, 110, 115, 95, 95]) 171), (.ref 4)⟩, ⟨PyData.keyHash P (Str.mk #[95, 95, 102, 105, 108, 101, 95, 95]), (.str (Str.mk #[95, 95, 102, 105, 108, 101, 95, 95]) 173), (.str (Str.mk #[47, 99, 108, 97, 105, 109, 47, 99, 117, 116, 46, 112, 121]) 172)⟩, ⟨PyData.keyHash P (Str.mk #[95, 95, 99, 97, 99, 104, 101, 100, 95, 95]), (.str (Str.mk #[95, 95, 99, 97, 99, 104, 101, 100, 95, 95]) 174), .none⟩, ⟨PyData.keyHash P (Str.mk #[95, 115, 114, 101]), (.str (Str.mk #[95, 115, 114, 101]) 275), (.ref 12)⟩, ⟨PyData.keyHash P (Str.mk #[95, 119, 97, 108, 108]), (.str (Str.mk #[95, 119, 97, 108, 108]) 288), (.ref 38)⟩, ⟨PyData.keyHash P (Str.mk #[67, 79, 77, 80, 73, 76, 69, 82, 95, 70, 76, 65, 71, 95, 78, 65, 77, 69, 83]), (.str (Str.mk #[67, 79, 77, 80, 73, 76, 69, 82, 95, 70, 76, 65, 71, 95, 78, 65, 77, 69, 83]) 321), (.ref 39)⟩, ⟨PyData.keyHash P (Str.mk #[112, 114, 101, 116, 116, 121, 95, 102, 108, 97, 103, 115]), (.str (Str.mk #[112, 114, 101, 116, 116, 121, 95, 102, 108, 97, 103, 115]) 331), (.ref 46)⟩, ⟨PyData.keyHash P (Str.mk #[98, 49, 95, 115, 101, 116]), (.str (Str.mk #[98, 49, 95, 115, 101, 116]) 393), (.ref 54)⟩, ⟨PyData.keyHash P (Str.mk #[105, 110, 95, 116, 97, 98, 108, 101, 95, 98, 49]), (.str (Str.mk #[105, 110, 95, 116, 97, 98, 108, 101, 95, 98, 49]) 400), (.ref 64)⟩, ⟨PyData.keyHash P (Str.mk #[87, 104, 105, 116, 101, 115, 112, 97, 99, 101]), (.str (Str.mk #[87, 104, 105, 116, 101, 115, 112, 97, 99, 101]) 498), (.ref 126)⟩, ⟨PyData.keyHash P (Str.mk #[116, 115, 112, 101, 99, 105, 97, 108, 115]), (.str (Str.mk #[116, 115, 112, 101, 99, 105, 97, 108, 115]) 534), (.ref 135)⟩, ⟨PyData.keyHash P (Str.mk #[95, 110, 97, 109, 101, 95, 100, 105, 115, 97, 108, 108, 111, 119, 101, 100, 95, 114, 101]), (.str (Str.mk #[95, 110, 97, 109, 101, 95, 100, 105, 115, 97, 108, 108, 111, 119, 101, 100, 95, 114, 101]) 560), (.ref 140)⟩, ⟨PyData.keyHash P (Str.mk #[95, 118, 97, 108, 117, 101, 95, 100, 105, 115, 97, 108, 108, 111, 119, 101, 100, 95, 114, 101]), (.str (Str.mk #[95, 118, 97, 108, 117, 101, 95, 100, 105, 115, 97, 108, 108, 111, 119, 101, 100, 95, 114, 101]) 594), (.ref 145)⟩, ⟨PyData.keyHash P (Str.mk #[95, 102, 111, 114, 109, 97, 116, 112, 97, 114, 97, 109]), (.str (Str.mk #[95, 102, 111, 114, 109, 97, 116, 112, 97, 114, 97, 109]) 604), (.ref 153)⟩] 20), #[]⟩
noncomputable def o29_p3 (P : Params) : Obj := ⟨.none, none, (.fields #[(.int 2 0), (.int 0 0), (.ref 37), (.int 7 0), (.int 0 0), (.ref 45), (.int 21 0), (.int 0 0), (.ref 63), (.int 24 0), (.int 0 0), (.ref 70), (.int 75 0), (.int 0 0), (.ref 152)]), #[]⟩
noncomputable def o131_p3 (P : Params) : Obj := ⟨(.type PySem.W.SL.s9222952809800978799x4), none, (.seq #[(.int 14 504), (.int 14 505), (.int 4 506), (.int 1 507), (.int 1 508), (.int 9 509), (.int 0 510), (.int 4227896069 511), (.int 939524097 512), (.int 0 513), (.int 0 514), (.int 0 515), (.int 0 516), (.int 0 517), (.int 0 518), (.int 13 519), (.int 11 520), (.int 9 521), (.int 0 522), (.int 4227896069 523), (.int 939524097 524), (.int 0 525), (.int 0 526), (.int 0 527), (.int 0 528), (.int 0 529), (.int 0 530), (.int 1 531)] 0), #[]⟩
noncomputable def o132_p3 (P : Params) : Obj := ⟨(.type PySem.W.SL.s14018661285674007319x4), none, (.dict #[] 0), #[]⟩
noncomputable def o133_p3 (P : Params) : Obj := ⟨(.type PySem.W.SL.s2766695959194262286x5), none, (.seq #[.none] 0), #[]⟩
noncomputable def o134_p3 (P : Params) : Obj := ⟨(.type PySem.W.SL.s2766695959194262286x5), none, (.seq #[(.int 14 0), (.int 14 0), (.int 4 0), (.int 1 0), (.int 1 0), (.int 9 0), (.int 0 0), (.int 4227896069 0), (.int 939524097 0), (.int 0 0), (.int 0 0), (.int 0 0), (.int 0 0), (.int 0 0), (.int 0 0), (.int 13 0), (.int 11 0), (.int 9 0), (.int 0 0), (.int 4227896069 0), (.int 939524097 0), (.int 0 0), (.int 0 0), (.int 0 0), (.int 0 0), (.int 0 0), (.int 0 0), (.int 1 0)] 0), #[]⟩
noncomputable def o135_p3 (P : Params) : Obj := ⟨(.type PySem.W.SL.s12171344214640291687x10), none, (.fields #[(.str (Str.mk #[91, 32, 92, 40, 92, 41, 60, 62, 64, 44, 59, 58, 92, 92, 34, 47, 92, 91, 92, 93, 92, 63, 61, 93]) 502), (.int 32 533), (.int 0 0), .none, .none, (.ref 134), (.int 0 0)]), #[]⟩
noncomputable def o136_p3 (P : Params) : Obj := ⟨(.type PySem.W.SL.s9222952809800978799x4), none, (.seq #[(.int 14 538), (.int 10 539), (.int 4 540), (.int 1 541), (.int 1 542), (.int 22 543), (.int 0 544), (.int 31 545), (.int 16 546), (.int 127 547), (.int 0 548), (.int 13 549), (.int 7 550), (.int 22 551), (.int 0 552), (.int 31 553), (.int 16 554), (.int 127 555), (.int 0 556), (.int 1 557)] 0), #[]⟩
noncomputable def o137_p3 (P : Params) : Obj := ⟨(.type PySem.W.SL.s14018661285674007319x4), none, (.dict #[] 0), #[]⟩
noncomputable def o138_p3 (P : Params) : Obj := ⟨(.type PySem.W.SL.s2766695959194262286x5), none, (.seq #[.none] 0), #[]⟩
noncomputable def o139_p3 (P : Params) : Obj := ⟨(.type PySem.W.SL.s2766695959194262286x5), none, (.seq #[(.int 14 0), (.int 10 0), (.int 4 0), (.int 1 0), (.int 1 0), (.int 22 0), (.int 0 0), (.int 31 0), (.int 16 0), (.int 127 0), (.int 0 0), (.int 13 0), (.int 7 0), (.int 22 0), (.int 0 0), (.int 31 0), (.int 16 0), (.int 127 0), (.int 0 0), (.int 1 0)] 0), #[]⟩
noncomputable def o140_p3 (P : Params) : Obj := ⟨(.type PySem.W.SL.s12171344214640291687x10), none, (.fields #[(.str (Str.mk #[91, 92, 120, 48, 48, 45, 92, 120, 49, 70, 92, 120, 55, 70, 93]) 536), (.int 32 559), (.int 0 0), .none, .none, (.ref 139), (.int 0 0)]), #[]⟩
noncomputable def o141_p3 (P : Params) : Obj := ⟨(.type PySem.W.SL.s9222952809800978799x4), none, (.seq #[(.int 14 564), (.int 14 565), (.int 4 566), (.int 1 567), (.int 1 568), (.int 9 569), (.int 4294966783 570), (.int 0 571), (.int 0 572), (.int 2147483648 573), (.int 0 574), (.int 0 575), (.int 0 576), (.int 0 577), (.int 0 578), (.int 13 579), (.int 11 580), (.int 9 581), (.int 4294966783 582), (.int 0 583), (.int 0 584), (.int 2147483648 585), (.int 0 586), (.int 0 587), (.int 0 588), (.int 0 589), (.int 0 590), (.int 1 591)] 0), #[]⟩
noncomputable def o142_p3 (P : Params) : Obj := ⟨(.type PySem.W.SL.s14018661285674007319x4), none, (.dict #[] 0), #[]⟩
noncomputable def o143_p3 (P : Params) : Obj := ⟨(.type PySem.W.SL.s2766695959194262286x5), none, (.seq #[.none] 0), #[]⟩
noncomputable def o144_p3 (P : Params) : Obj := ⟨(.type PySem.W.SL.s2766695959194262286x5), none, (.seq #[(.int 14 0), (.int 14 0), (.int 4 0), (.int 1 0), (.int 1 0), (.int 9 0), (.int 4294966783 0), (.int 0 0), (.int 0 0), (.int 2147483648 0), (.int 0 0), (.int 0 0), (.int 0 0), (.int 0 0), (.int 0 0), (.int 13 0), (.int 11 0), (.int 9 0), (.int 4294966783 0), (.int 0 0), (.int 0 0), (.int 2147483648 0), (.int 0 0), (.int 0 0), (.int 0 0), (.int 0 0), (.int 0 0), (.int 1 0)] 0), #[]⟩
noncomputable def o145_p3 (P : Params) : Obj := ⟨(.type PySem.W.SL.s12171344214640291687x10), none, (.fields #[(.str (Str.mk #[91, 92, 120, 48, 48, 45, 92, 120, 48, 56, 92, 120, 48, 65, 45, 92, 120, 49, 70, 92, 120, 55, 70, 93]) 562), (.int 32 593), (.int 0 0), .none, .none, (.ref 144), (.int 0 0)]), #[]⟩
noncomputable def o146_p3 (P : Params) : Obj := ⟨(.type PySem.W.SL.s2766695959194262286x5), none, (.seq #[.none, (.int 1 595)] 0), #[]⟩
noncomputable def o147_p3 (P : Params) : Obj := ⟨(.type PySem.W.SL.s2766695959194262286x5), none, (.seq #[] 0), #[]⟩
noncomputable def o148_p3 (P : Params) : Obj := ⟨.none, none, (.fields #[]), #[]⟩
noncomputable def o149_p3 (P : Params) : Obj := ⟨(.type PySem.W.SL.s2766695959194262286x5), none, (.seq #[(.str (Str.mk #[112, 97, 114, 97, 109]) 599), (.str (Str.mk #[118, 97, 108, 117, 101]) 600), (.str (Str.mk #[113, 117, 111, 116, 101]) 601)] 0), #[]⟩
noncomputable def o150_p3 (P : Params) : Obj := ⟨(.type PySem.W.SL.s2766695959194262286x5), none, (.seq #[] 0), #[]⟩
noncomputable def o151_p3 (P : Params) : Obj := ⟨.none, none, (.func ⟨(Str.mk #[95, 102, 111, 114, 109, 97, 116, 112, 97, 114, 97, 109]), (Str.mk #[95, 102, 111, 114, 109, 97, 116, 112, 97, 114, 97, 109]), (fdOf (stm 14)).1, (.stmts (fdOf (stm 14)).2.1), (fdOf (stm 14)).2.2, 0, [], .none, .none, .none, .none, none, .none, .none, 0⟩), #[]⟩
noncomputable def o152_p3 (P : Params) : Obj := ⟨(.type PySem.W.SL.s5856160107412720595x4), none, (.fields #[(.str (Str.mk #[95, 102, 111, 114, 109, 97, 116, 112, 97, 114, 97, 109]) 596), (.str (Str.mk #[95, 102, 111, 114, 109, 97, 116, 112, 97, 114, 97, 109]) 597), (.str (Str.mk #[47, 99, 108, 97, 105, 109, 47, 99, 117, 116, 46, 112, 121]) 598), (.int 75 0), (.int 3 0), (.int 0 0), (.int 0 0), (.int 3 0), (.ref 147), (.bool true), (.int 276 0), (.ref 148), .none, (.ref 149), (.ref 150), (.ref 151), (.int 602 0), (.int 75 0), (.str (Str.mk #[47, 99, 108, 97, 105, 109, 47, 99, 117, 116, 46, 112, 121]) 603)]), #[]⟩
noncomputable def o153_p3 (P : Params) : Obj := ⟨(.type PySem.W.SL.s7174869446012820540x8), none, (.func ⟨(Str.mk #[95, 102, 111, 114, 109, 97, 116, 112, 97, 114, 97, 109]), (Str.mk #[95, 102, 111, 114, 109, 97, 116, 112, 97, 114, 97, 109]), (fdOf (stm 14)).1, (.stmts (fdOf (stm 14)).2.1), (fdOf (stm 14)).2.2, 3, [], (.ref 146), .none, .none, (.str (Str.mk #[99, 112, 121, 51, 49, 51, 46, 119, 115, 103, 105, 114, 101, 102, 46, 104, 101, 97, 100, 101, 114, 115]) 499), none, (.ref 152), .none, 0⟩), #[]⟩
noncomputable def tr_p3_c32 (P : Params) : BT := (.node (o15_e P) (.node (o31_a P) (.node (o63_p2 P) (.node (o127_p2 P) .nil .nil) .nil) (.node (o95_p2 P) .nil .nil)) (.node (o47_p1 P) (.node (o79_p2 P) (.node (o143_p3 P) .nil .nil) .nil) (.node (o111_p2 P) .nil .nil)))
noncomputable def tr_p3_c33 (P : Params) : BT := (.node (o23_e P) (.node (o39_p0 P) (.node (o71_p2 P) (.node (o135_p3 P) .nil .nil) .nil) (.node (o103_p2 P) .nil .nil)) (.node (o55_p1 P) (.node (o87_p2 P) (.node (o151_p3 P) .nil .nil) .nil) (.node (o119_p2 P) .nil .nil)))
noncomputable def tr_p3_c34 (P : Params) : BT := (.node (o19_e P) (.node (o35_p0 P) (.node (o67_p2 P) (.node (o131_p3 P) .nil .nil) .nil) (.node (o99_p2 P) .nil .nil)) (.node (o51_p1 P) (.node (o83_p2 P) (.node (o147_p3 P) .nil .nil) .nil) (.node (o115_p2 P) .nil .nil)))
noncomputable def tr_p3_c35 (P : Params) : BT := (.node (o27_e P) (.node (o43_p0 P) (.node (o75_p2 P) (.node (o139_p3 P) .nil .nil) .nil) (.node (o107_p2 P) .nil .nil)) (.node (o59_p2 P) (.node (o91_p2 P) .nil .nil) (.node (o123_p2 P) .nil .nil)))
noncomputable def tr_p3_c36 (P : Params) : BT := (.node (o3_p3 P) (.node (o7_e P) (tr_p3_c32 P) (tr_p3_c33 P)) (.node (o11_s P) (tr_p3_c34 P) (tr_p3_c35 P)))
noncomputable def tr_p3_c37 (P : Params) : BT := (.node (o17_e P) (.node (o33_p0 P) (.node (o65_p2 P) (.node (o129_p2 P) .nil .nil) .nil) (.node (o97_p2 P) .nil .nil)) (.node (o49_p1 P) (.node (o81_p2 P) (.node (o145_p3 P) .nil .nil) .nil) (.node (o113_p2 P) .nil .nil)))
noncomputable def tr_p3_c38 (P : Params) : BT := (.node (o25_e P) (.node (o41_p0 P) (.node (o73_p2 P) (.node (o137_p3 P) .nil .nil) .nil) (.node (o105_p2 P) .nil .nil)) (.node (o57_p1 P) (.node (o89_p2 P) (.node (o153_p3 P) .nil .nil) .nil) (.node (o121_p2 P) .nil .nil)))
noncomputable def tr_p3_c39 (P : Params) : BT := (.node (o21_e P) (.node (o37_p0 P) (.node (o69_p2 P) (.node (o133_p3 P) .nil .nil) .nil) (.node (o101_p2 P) .nil .nil)) (.node (o53_p1 P) (.node (o85_p2 P) (.node (o149_p3 P) .nil .nil) .nil) (.node (o117_p2 P) .nil .nil)))
noncomputable def tr_p3_c40 (P : Params) : BT := (.node (o29_p3 P) (.node (o45_p0 P) (.node (o77_p2 P) (.node (o141_p3 P) .nil .nil) .nil) (.node (o109_p2 P) .nil .nil)) (.node (o61_p2 P) (.node (o93_p2 P) .nil .nil) (.node (o125_p2 P) .nil .nil)))
noncomputable def tr_p3_c41 (P : Params) : BT := (.node (o5_e P) (.node (o9_e P) (tr_p3_c37 P) (tr_p3_c38 P)) (.node (o13_e P) (tr_p3_c39 P) (tr_p3_c40 P)))
noncomputable def tr_p3_c42 (P : Params) : BT := (.node (o16_e P) (.node (o32_p0 P) (.node (o64_p2 P) (.node (o128_p2 P) .nil .nil) .nil) (.node (o96_p2 P) .nil .nil)) (.node (o48_p1 P) (.node (o80_p2 P) (.node (o144_p3 P) .nil .nil) .nil) (.node (o112_p2 P) .nil .nil)))
noncomputable def tr_p3_c43 (P : Params) : BT := (.node (o24_e P) (.node (o40_p0 P) (.node (o72_p2 P) (.node (o136_p3 P) .nil .nil) .nil) (.node (o104_p2 P) .nil .nil)) (.node (o56_p1 P) (.node (o88_p2 P) (.node (o152_p3 P) .nil .nil) .nil) (.node (o120_p2 P) .nil .nil)))
noncomputable def tr_p3_c44 (P : Params) : BT := (.node (o20_e P) (.node (o36_p0 P) (.node (o68_p2 P) (.node (o132_p3 P) .nil .nil) .nil) (.node (o100_p2 P) .nil .nil)) (.node (o52_p1 P) (.node (o84_p2 P) (.node (o148_p3 P) .nil .nil) .nil) (.node (o116_p2 P) .nil .nil)))
noncomputable def tr_p3_c45 (P : Params) : BT := (.node (o28_a P) (.node (o44_p0 P) (.node (o76_p2 P) (.node (o140_p3 P) .nil .nil) .nil) (.node (o108_p2 P) .nil .nil)) (.node (o60_p2 P) (.node (o92_p2 P) .nil .nil) (.node (o124_p2 P) .nil .nil)))
noncomputable def tr_p3_c46 (P : Params) : BT := (.node (o4_e P) (.node (o8_e P) (tr_p3_c42 P) (tr_p3_c43 P)) (.node (o12_e P) (tr_p3_c44 P) (tr_p3_c45 P)))
noncomputable def tr_p3_c47 (P : Params) : BT := (.node (o18_e P) (.node (o34_p0 P) (.node (o66_p2 P) (.node (o130_p2 P) .nil .nil) .nil) (.node (o98_p2 P) .nil .nil)) (.node (o50_p1 P) (.node (o82_p2 P) (.node (o146_p3 P) .nil .nil) .nil) (.node (o114_p2 P) .nil .nil)))
noncomputable def tr_p3_c48 (P : Params) : BT := (.node (o26_e P) (.node (o42_p0 P) (.node (o74_p2 P) (.node (o138_p3 P) .nil .nil) .nil) (.node (o106_p2 P) .nil .nil)) (.node (o58_p2 P) (.node (o90_p2 P) .nil .nil) (.node (o122_p2 P) .nil .nil)))
noncomputable def tr_p3_c49 (P : Params) : BT := (.node (o22_e P) (.node (o38_p0 P) (.node (o70_p2 P) (.node (o134_p3 P) .nil .nil) .nil) (.node (o102_p2 P) .nil .nil)) (.node (o54_p1 P) (.node (o86_p2 P) (.node (o150_p3 P) .nil .nil) .nil) (.node (o118_p2 P) .nil .nil)))
noncomputable def tr_p3_c50 (P : Params) : BT := (.node (o30_a P) (.node (o46_p0 P) (.node (o78_p2 P) (.node (o142_p3 P) .nil .nil) .nil) (.node (o110_p2 P) .nil .nil)) (.node (o62_p2 P) (.node (o94_p2 P) .nil .nil) (.node (o126_p2 P) .nil .nil)))
noncomputable def tr_p3_c51 (P : Params) : BT := (.node (o6_e P) (.node (o10_e P) (tr_p3_c47 P) (tr_p3_c48 P)) (.node (o14_e P) (tr_p3_c49 P) (tr_p3_c50 P)))
noncomputable def tr_p3 (P : Params) : BT := (.node (o0_e P) (.node (o1_e P) (tr_p3_c36 P) (tr_p3_c41 P)) (.node (o2_e P) (tr_p3_c46 P) (tr_p3_c51 P)))
noncomputable def L_p3 (w : World) : OsState → Option (Flow × SharedT × Code × Pos) := fun os => segRunT treeTable pw w 28 (some (.ref 6)) 1 266 ⟨tr_p2 w.params, 131, {}, #[], {}, 499, os⟩ (piecesOf sts3 env0 cd0 ⟨24, 0, 70, 16⟩ fr0)
noncomputable def R_p3 (w : World) : OsState → Option (Flow × SharedT × Code × Pos) := fun os => some (.next, ⟨tr_p3 w.params, 154, {}, #[], {}, 605, os⟩, cd0, ⟨75, 0, 83, 20⟩)
theorem L_p3_self : L_p3 = L_p3 := rfl
theorem R_p3_self : R_p3 = R_p3 := rfl
name_quick L_p3Q for L_p3 by L_p3_self
name_quick R_p3Q for R_p3 by R_p3_self
theorem E_p3 (w : World) : L_p3 w = R_p3 w := by
  rw [PySem.W.Fast.L_p3Q_eq, PySem.W.Fast.R_p3Q_eq]
  kernel_rfl
noncomputable def sts4 : List Stmt := [(pw.main.body[15]?).getD default]
noncomputable def o3_p4 (P : Params) : Obj := ⟨(.type PySem.W.SL.s14018661285674007319x4), none, (.dict #[⟨PyData.keyHash P (Str.mk #[95, 95, 110, 97, 109, 101, 95, 95]), (.str (Str.mk #[95, 95, 110, 97, 109, 101, 95, 95]) 165), (.str (Str.mk #[99, 112, 121, 51, 49, 51, 46, 119, 115, 103, 105, 114, 101, 102, 46, 104, 101, 97, 100, 101, 114, 115]) 499)⟩, ⟨PyData.keyHash P (Str.mk #[95, 95, 100, 111, 99, 95, 95]), (.str (Str.mk #[95, 95, 100, 111, 99, 95, 95]) 166), .none⟩, ⟨PyData.keyHash P (Str.mk #[95, 95, 112, 97, 99, 107, 97, 103, 101, 95, 95]), (.str (Str.mk #[95, 95, 112, 97, 99, 107, 97, 103, 101, 95, 95]) 167), .none⟩, ⟨PyData.keyHash P (Str.mk #[95, 95, 108, 111, 97, 100, 101, 114, 95, 95]), (.str (Str.mk #[95, 95, 108, 111, 97, 100, 101, 114, 95, 95]) 168), (.builtin PySem.W.SL.s7097527257260152453x26)⟩, ⟨PyData.keyHash P (Str.mk #[95, 95, 115, 112, 101, 99, 95, 95]), (.str (Str.mk #[95, 95, 115, 112, 101, 99, 95, 95]) 169), .none⟩, ⟨PyData.keyHash P (Str.mk #[95, 95, 97, 110, 110, 111, 116, 97, 116, 105, 111, 110, 115, 95, 95]), (.str (Str.mk #[95, 95, 97, 110, 110, 111, 116, 97, 116, 105, 111, 110, 115, 95, 95]) 170), (.ref 6)⟩, ⟨PyData.keyHash P (Str.mk #[95, 95, 98, 117, 105, 108, 116, 105, 110, 115, 95, 95]), (.str (Str.mk #[95, 95, 98, 117, 105, 108, 116, 105, 110, 115, 95, 95]) 171), (.ref 4)⟩, ⟨PyData.keyHash P (Str.mk #[95, 95, 102, 105, 108, 101, 95, 95]), (.str (Str.mk #[95, 95, 102, 105, 108, 101, 95, 95]) 173), (.str (Str.mk #[47, 99, 108, 97, 105, 109, 47, 99, 117, 116, 46, 112, 121]) 172)⟩, ⟨PyData.keyHash P (Str.mk #[95, 95, 99, 97, 99, 104, 101, 100, 95, 95]), (.str (Str.mk #[95, 95, 99, 97, 99, 104, 101, 100, 95, 95]) 174), .none⟩, ⟨PyData.keyHash P (Str.mk #[95, 115, 114, 101]), (.str (Str.mk #[95, 115, 114, 101]) 275), (.ref 12)⟩, ⟨PyData.keyHash P (Str.mk #[95, 119, 97, 108, 108]), (.str (Str.mk #[95, 119, 97, 108, 108]) 288), (.ref 38)⟩, ⟨PyData.keyHash P (Str.mk #[67, 79, 77, 80, 73, 76, 69, 82, 95, 70, 76, 65, 71, 95, 78, 65, 77, 69, 83]), (.str (Str.mk #[67, 79, 77, 80, 73, 76, 69, 82, 95, 70, 76, 65, 71, 95, 78, 65, 77, 69, 83]) 321), (.ref 39)⟩, ⟨PyData.keyHash P (Str.mk #[112, 114, 101, 116, 116, 121, 95, 102, 108, 97, 103, 115]), (.str (Str.mk #[112, 114, 101, 116, 116, 121, 95, 102, 108, 97, 103, 115]) 331), (.ref 46)⟩, ⟨PyData.keyHash P (Str.mk #[98, 49, 95, 115, 101, 116]), (.str (Str.mk #[98, 49, 95, 115, 101, 116]) 393), (.ref 54)⟩, ⟨PyData.keyHash P (Str.mk #[105, 110, 95, 116, 97, 98, 108, 101, 95, 98, 49]), (.str (Str.mk #[105, 110, 95, 116, 97, 98, 108, 101, 95, 98, 49]) 400), (.ref 64)⟩, ⟨PyData.keyHash P (Str.mk #[87, 104, 105, 116, 101, 115, 112, 97, 99, 101]), (.str (Str.mk #[87, 104, 105, 116, 101, 115, 112, 97, 99, 101]) 498), (.ref 126)⟩, ⟨PyData.keyHash P (Str.mk #[116, 115, 112, 101, 99, 105, 97, 108, 115]), (.str (Str.mk #[116, 115, 112, 101, 99, 105, 97, 108, 115]) 534), (.ref 135)⟩, ⟨PyData.keyHash P (Str.mk #[95, 110, 97, 109, 101, 95, 100, 105, 115, 97, 108, 108, 111, 119, 101, 100, 95, 114, 101]), (.str (Str.mk #[95, 110, 97, 109, 101, 95, 100, 105, 115, 97, 108, 108, 111, 119, 101, 100, 95, 114, 101]) 560), (.ref 140)⟩, ⟨PyData.keyHash P (Str.mk #[95, 118, 97, 108, 117, 101, 95, 100, 105, 115, 97, 108, 108, 111, 119, 101, 100, 95, 114, 101]), (.str (Str.mk #[95, 118, 97, 108, 117, 101, 95, 100, 105, 115, 97, 108, 108, 111, 119, 101, 100, 95, 114, 101]) 594), (.ref 145)⟩, ⟨PyData.keyHash P (Str.mk #[95, 102, 111, 114, 109, 97, 116, 112, 97, 114, 97, 109]), (.str (Str.mk #[95, 102, 111, 114, 109, 97, 116, 112, 97, 114, 97, 109]) 604), (.ref 153)⟩, ⟨PyData.keyHash P (Str.mk #[72, 101, 97, 100, 101, 114, 115]), (.str (Str.mk #[72, 101, 97, 100, 101, 114, 115]) 763), (.ref 276)⟩] 21), #[]⟩
noncomputable def o29_p4 (P : Params) : Obj := ⟨.none, none, (.fields #[(.int 2 0), (.int 0 0), (.ref 37), (.int 7 0), (.int 0 0), (.ref 45), (.int 21 0), (.int 0 0), (.ref 63), (.int 24 0), (.int 0 0), (.ref 70), (.int 75 0), (.int 0 0), (.ref 152), (.int 84 0), (.int 0 0), (.ref 159)]), #[]⟩
noncomputable def o154_p4 (P : Params) : Obj := ⟨(.type PySem.W.SL.s2766695959194262286x5), none, (.seq #[] 0), #[]⟩
noncomputable def o155_p4 (P : Params) : Obj := ⟨(.type PySem.W.SL.s11030030927630378310x26), none, (.fields #[(.builtin PySem.W.SL.s10062305145149207511x16), (.type PySem.W.SL.s17162191345867700912x4)]), #[]⟩
noncomputable def o156_p4 (P : Params) : Obj := ⟨(.type PySem.W.SL.s14018661285674007319x4), none, (.dict #[⟨PyData.keyHash P (Str.mk #[95, 95, 109, 111, 100, 117, 108, 101, 95, 95]), (.str (Str.mk #[95, 95, 109, 111, 100, 117, 108, 101, 95, 95]) 612), (.str (Str.mk #[99, 112, 121, 51, 49, 51, 46, 119, 115, 103, 105, 114, 101, 102, 46, 104, 101, 97, 100, 101, 114, 115]) 499)⟩, ⟨PyData.keyHash P (Str.mk #[95, 95, 113, 117, 97, 108, 110, 97, 109, 101, 95, 95]), (.str (Str.mk #[95, 95, 113, 117, 97, 108, 110, 97, 109, 101, 95, 95]) 614), (.str (Str.mk #[72, 101, 97, 100, 101, 114, 115]) 613)⟩, ⟨PyData.keyHash P (Str.mk #[95, 95, 102, 105, 114, 115, 116, 108, 105, 110, 101, 110, 111, 95, 95]), (.str (Str.mk #[95, 95, 102, 105, 114, 115, 116, 108, 105, 110, 101, 110, 111, 95, 95]) 616), (.int 84 615)⟩, ⟨PyData.keyHash P (Str.mk #[95, 95, 105, 110, 105, 116, 95, 95]), (.str (Str.mk #[95, 95, 105, 110, 105, 116, 95, 95]) 626), (.ref 168)⟩, ⟨PyData.keyHash P (Str.mk #[95, 99, 111, 110, 118, 101, 114, 116, 95, 115, 116, 114, 105, 110, 103, 95, 116, 121, 112, 101]), (.str (Str.mk #[95, 99, 111, 110, 118, 101, 114, 116, 95, 115, 116, 114, 105, 110, 103, 95, 116, 121, 112, 101]) 636), (.ref 175)⟩, ⟨PyData.keyHash P (Str.mk #[95, 95, 108, 101, 110, 95, 95]), (.str (Str.mk #[95, 95, 108, 101, 110, 95, 95]) 643), (.ref 182)⟩, ⟨PyData.keyHash P (Str.mk #[95, 95, 115, 101, 116, 105, 116, 101, 109, 95, 95]), (.str (Str.mk #[95, 95, 115, 101, 116, 105, 116, 101, 109, 95, 95]) 652), (.ref 189)⟩, ⟨PyData.keyHash P (Str.mk #[95, 95, 100, 101, 108, 105, 116, 101, 109, 95, 95]), (.str (Str.mk #[95, 95, 100, 101, 108, 105, 116, 101, 109, 95, 95]) 658), (.ref 194)⟩, ⟨PyData.keyHash P (Str.mk #[95, 95, 103, 101, 116, 105, 116, 101, 109, 95, 95]), (.str (Str.mk #[95, 95, 103, 101, 116, 105, 116, 101, 109, 95, 95]) 666), (.ref 201)⟩, ⟨PyData.keyHash P (Str.mk #[95, 95, 99, 111, 110, 116, 97, 105, 110, 115, 95, 95]), (.str (Str.mk #[95, 95, 99, 111, 110, 116, 97, 105, 110, 115, 95, 95]) 674), (.ref 208)⟩, ⟨PyData.keyHash P (Str.mk #[103, 101, 116, 95, 97, 108, 108]), (.str (Str.mk #[103, 101, 116, 95, 97, 108, 108]) 682), (.ref 215)⟩, ⟨PyData.keyHash P (Str.mk #[103, 101, 116]), (.str (Str.mk #[103, 101, 116]) 693), (.ref 223)⟩, ⟨PyData.keyHash P (Str.mk #[107, 101, 121, 115]), (.str (Str.mk #[107, 101, 121, 115]) 699), (.ref 228)⟩, ⟨PyData.keyHash P (Str.mk #[118, 97, 108, 117, 101, 115]), (.str (Str.mk #[118, 97, 108, 117, 101, 115]) 705), (.ref 233)⟩, ⟨PyData.keyHash P (Str.mk #[105, 116, 101, 109, 115]), (.str (Str.mk #[105, 116, 101, 109, 115]) 712), (.ref 240)⟩, ⟨PyData.keyHash P (Str.mk #[95, 95, 114, 101, 112, 114, 95, 95]), (.str (Str.mk #[95, 95, 114, 101, 112, 114, 95, 95]) 719), (.ref 247)⟩, ⟨PyData.keyHash P (Str.mk #[95, 95, 115, 116, 114, 95, 95]), (.str (Str.mk #[95, 95, 115, 116, 114, 95, 95]) 725), (.ref 252)⟩, ⟨PyData.keyHash P (Str.mk #[95, 95, 98, 121, 116, 101, 115, 95, 95]), (.str (Str.mk #[95, 95, 98, 121, 116, 101, 115, 95, 95]) 732), (.ref 259)⟩, ⟨PyData.keyHash P (Str.mk #[115, 101, 116, 100, 101, 102, 97, 117, 108, 116]), (.str (Str.mk #[115, 101, 116, 100, 101, 102, 97, 117, 108, 116]) 741), (.ref 266)⟩, ⟨PyData.keyHash P (Str.mk #[97, 100, 100, 95, 104, 101, 97, 100, 101, 114]), (.str (Str.mk #[97, 100, 100, 95, 104, 101, 97, 100, 101, 114]) 754), (.ref 273)⟩, ⟨PyData.keyHash P (Str.mk #[95, 95, 115, 116, 97, 116, 105, 99, 95, 97, 116, 116, 114, 105, 98, 117, 116, 101, 115, 95, 95]), (.str (Str.mk #[95, 95, 115, 116, 97, 116, 105, 99, 95, 97, 116, 116, 114, 105, 98, 117, 116, 101, 115, 95, 95]) 756), (.ref 274)⟩] 21), #[]⟩
noncomputable def o157_p4 (P : Params) : Obj := ⟨(.type PySem.W.SL.s2766695959194262286x5), none, (.seq #[] 0), #[]⟩
noncomputable def o158_p4 (P : Params) : Obj := ⟨.none, none, (.fields #[(.int 86 0), (.int 4 0), (.ref 167), (.int 96 0), (.int 4 0), (.ref 174), (.int 104 0), (.int 4 0), (.ref 181), (.int 107 0), (.int 4 0), (.ref 188), (.int 111 0), (.int 4 0), (.ref 193), (.int 115 0), (.int 4 0), (.ref 200), (.int 118 0), (.int 4 0), (.ref 207), (.int 121 0), (.int 4 0), (.ref 214), (.int 124 0), (.int 4 0), (.ref 222), (.int 131 0), (.int 4 0), (.ref 227), (.int 134 0), (.int 4 0), (.ref 232), (.int 137 0), (.int 4 0), (.ref 239), (.int 140 0), (.int 4 0), (.ref 246), (.int 143 0), (.int 4 0), (.ref 251), (.int 146 0), (.int 4 0), (.ref 258), (.int 149 0), (.int 4 0), (.ref 265), (.int 152 0), (.int 4 0), (.ref 272)]), #[]⟩
noncomputable def o159_p4 (P : Params) : Obj := ⟨(.type PySem.W.SL.s5856160107412720595x4), none, (.fields #[(.str (Str.mk #[72, 101, 97, 100, 101, 114, 115]) 607), (.str (Str.mk #[72, 101, 97, 100, 101, 114, 115]) 608), (.str (Str.mk #[47, 99, 108, 97, 105, 109, 47, 99, 117, 116, 46, 112, 121]) 609), (.int 84 0), (.int 0 0), (.int 0 0), (.int 0 0), (.int 0 0), (.ref 157), (.bool false), (.int 276 0), (.ref 158), .none, .none, .none, .none, (.int 610 0), (.int 84 0), (.str (Str.mk #[47, 99, 108, 97, 105, 109, 47, 99, 117, 116, 46, 112, 121]) 611)]), #[]⟩
noncomputable def o160_p4 (P : Params) : Obj := ⟨(.type PySem.W.SL.s658472552662922059x5), none, .plain, #[(some (.ref 159)), (some (.ref 3)), (some (.ref 156)), none, (some (.str (Str.mk #[99, 112, 121, 51, 49, 51, 46, 119, 115, 103, 105, 114, 101, 102, 46, 104, 101, 97, 100, 101, 114, 115]) 499)), none, (some (.ref 0))]⟩
noncomputable def o161_p4 (P : Params) : Obj := ⟨(.type PySem.W.SL.s2766695959194262286x5), none, (.seq #[.none] 0), #[]⟩
noncomputable def o162_p4 (P : Params) : Obj := ⟨(.type PySem.W.SL.s2766695959194262286x5), none, (.seq #[] 0), #[]⟩
noncomputable def o163_p4 (P : Params) : Obj := ⟨.none, none, (.fields #[]), #[]⟩
noncomputable def o164_p4 (P : Params) : Obj := ⟨(.type PySem.W.SL.s2766695959194262286x5), none, (.seq #[(.str (Str.mk #[115, 101, 108, 102]) 620), (.str (Str.mk #[104, 101, 97, 100, 101, 114, 115]) 621), (.str (Str.mk #[107]) 622), (.str (Str.mk #[118]) 623)] 0), #[]⟩
noncomputable def o165_p4 (P : Params) : Obj := ⟨(.type PySem.W.SL.s2766695959194262286x5), none, (.seq #[] 0), #[]⟩
noncomputable def o166_p4 (P : Params) : Obj := ⟨.none, none, (.func ⟨(Str.mk #[95, 95, 105, 110, 105, 116, 95, 95]), (Str.mk #[72, 101, 97, 100, 101, 114, 115, 46, 95, 95, 105, 110, 105, 116, 95, 95]), (fdOf (mth 15 0)).1, (.stmts (fdOf (mth 15 0)).2.1), (fdOf (mth 15 0)).2.2, 0, [], .none, .none, .none, .none, none, .none, .none, 0⟩), #[]⟩
noncomputable def o167_p4 (P : Params) : Obj := ⟨(.type PySem.W.SL.s5856160107412720595x4), none, (.fields #[(.str (Str.mk #[95, 95, 105, 110, 105, 116, 95, 95]) 617), (.str (Str.mk #[72, 101, 97, 100, 101, 114, 115, 46, 95, 95, 105, 110, 105, 116, 95, 95]) 618), (.str (Str.mk #[47, 99, 108, 97, 105, 109, 47, 99, 117, 116, 46, 112, 121]) 619), (.int 86 0), (.int 2 0), (.int 0 0), (.int 0 0), (.int 3 0), (.ref 162), (.bool true), (.int 276 0), (.ref 163), .none, (.ref 164), (.ref 165), (.ref 166), (.int 624 0), (.int 86 0), (.str (Str.mk #[47, 99, 108, 97, 105, 109, 47, 99, 117, 116, 46, 112, 121]) 625)]), #[]⟩
noncomputable def o168_p4 (P : Params) : Obj := ⟨(.type PySem.W.SL.s7174869446012820540x8), none, (.func ⟨(Str.mk #[95, 95, 105, 110, 105, 116, 95, 95]), (Str.mk #[72, 101, 97, 100, 101, 114, 115, 46, 95, 95, 105, 110, 105, 116, 95, 95]), (fdOf (mth 15 0)).1, (.stmts (fdOf (mth 15 0)).2.1), (fdOf (mth 15 0)).2.2, 3, [], (.ref 161), .none, .none, (.str (Str.mk #[99, 112, 121, 51, 49, 51, 46, 119, 115, 103, 105, 114, 101, 102, 46, 104, 101, 97, 100, 101, 114, 115]) 499), none, (.ref 167), .none, 0⟩), #[]⟩
noncomputable def o169_p4 (P : Params) : Obj := ⟨(.type PySem.W.SL.s2766695959194262286x5), none, (.seq #[] 0), #[]⟩
noncomputable def o170_p4 (P : Params) : Obj := ⟨.none, none, (.fields #[]), #[]⟩
noncomputable def o171_p4 (P : Params) : Obj := ⟨(.type PySem.W.SL.s2766695959194262286x5), none, (.seq #[(.str (Str.mk #[115, 101, 108, 102]) 630), (.str (Str.mk #[118, 97, 108, 117, 101]) 631), (.str (Str.mk #[110, 97, 109, 101]) 632), (.str (Str.mk #[114, 101, 103, 101, 120]) 633)] 0), #[]⟩
noncomputable def o172_p4 (P : Params) : Obj := ⟨(.type PySem.W.SL.s2766695959194262286x5), none, (.seq #[] 0), #[]⟩
noncomputable def o173_p4 (P : Params) : Obj := ⟨.none, none, (.func ⟨(Str.mk #[95, 99, 111, 110, 118, 101, 114, 116, 95, 115, 116, 114, 105, 110, 103, 95, 116, 121, 112, 101]), (Str.mk #[72, 101, 97, 100, 101, 114, 115, 46, 95, 99, 111, 110, 118, 101, 114, 116, 95, 115, 116, 114, 105, 110, 103, 95, 116, 121, 112, 101]), (fdOf (mth 15 1)).1, (.stmts (fdOf (mth 15 1)).2.1), (fdOf (mth 15 1)).2.2, 0, [], .none, .none, .none, .none, none, .none, .none, 0⟩), #[]⟩
noncomputable def o174_p4 (P : Params) : Obj := ⟨(.type PySem.W.SL.s5856160107412720595x4), none, (.fields #[(.str (Str.mk #[95, 99, 111, 110, 118, 101, 114, 116, 95, 115, 116, 114, 105, 110, 103, 95, 116, 121, 112, 101]) 627), (.str (Str.mk #[72, 101, 97, 100, 101, 114, 115, 46, 95, 99, 111, 110, 118, 101, 114, 116, 95, 115, 116, 114, 105, 110, 103, 95, 116, 121, 112, 101]) 628), (.str (Str.mk #[47, 99, 108, 97, 105, 109, 47, 99, 117, 116, 46, 112, 121]) 629), (.int 96 0), (.int 2 0), (.int 0 0), (.int 1 0), (.int 3 0), (.ref 169), (.bool true), (.int 276 0), (.ref 170), .none, (.ref 171), (.ref 172), (.ref 173), (.int 634 0), (.int 96 0), (.str (Str.mk #[47, 99, 108, 97, 105, 109, 47, 99, 117, 116, 46, 112, 121]) 635)]), #[]⟩
noncomputable def o175_p4 (P : Params) : Obj := ⟨(.type PySem.W.SL.s7174869446012820540x8), none, (.func ⟨(Str.mk #[95, 99, 111, 110, 118, 101, 114, 116, 95, 115, 116, 114, 105, 110, 103, 95, 116, 121, 112, 101]), (Str.mk #[72, 101, 97, 100, 101, 114, 115, 46, 95, 99, 111, 110, 118, 101, 114, 116, 95, 115, 116, 114, 105, 110, 103, 95, 116, 121, 112, 101]), (fdOf (mth 15 1)).1, (.stmts (fdOf (mth 15 1)).2.1), (fdOf (mth 15 1)).2.2, 3, [], .none, .none, .none, (.str (Str.mk #[99, 112, 121, 51, 49, 51, 46, 119, 115, 103, 105, 114, 101, 102, 46, 104, 101, 97, 100, 101, 114, 115]) 499), none, (.ref 174), .none, 0⟩), #[]⟩
noncomputable def o176_p4 (P : Params) : Obj := ⟨(.type PySem.W.SL.s2766695959194262286x5), none, (.seq #[] 0), #[]⟩
noncomputable def o177_p4 (P : Params) : Obj := ⟨.none, none, (.fields #[]), #[]⟩
noncomputable def o178_p4 (P : Params) : Obj := ⟨(.type PySem.W.SL.s2766695959194262286x5), none, (.seq #[(.str (Str.mk #[115, 101, 108, 102]) 640)] 0), #[]⟩
noncomputable def o179_p4 (P : Params) : Obj := ⟨(.type PySem.W.SL.s2766695959194262286x5), none, (.seq #[] 0), #[]⟩
noncomputable def o180_p4 (P : Params) : Obj := ⟨.none, none, (.func ⟨(Str.mk #[95, 95, 108, 101, 110, 95, 95]), (Str.mk #[72, 101, 97, 100, 101, 114, 115, 46, 95, 95, 108, 101, 110, 95, 95]), (fdOf (mth 15 2)).1, (.stmts (fdOf (mth 15 2)).2.1), (fdOf (mth 15 2)).2.2, 0, [], .none, .none, .none, .none, none, .none, .none, 0⟩), #[]⟩
noncomputable def o181_p4 (P : Params) : Obj := ⟨(.type PySem.W.SL.s5856160107412720595x4), none, (.fields #[(.str (Str.mk #[95, 95, 108, 101, 110, 95, 95]) 637), (.str (Str.mk #[72, 101, 97, 100, 101, 114, 115, 46, 95, 95, 108, 101, 110, 95, 95]) 638), (.str (Str.mk #[47, 99, 108, 97, 105, 109, 47, 99, 117, 116, 46, 112, 121]) 639), (.int 104 0), (.int 1 0), (.int 0 0), (.int 0 0), (.int 3 0), (.ref 176), (.bool true), (.int 276 0), (.ref 177), .none, (.ref 178), (.ref 179), (.ref 180), (.int 641 0), (.int 104 0), (.str (Str.mk #[47, 99, 108, 97, 105, 109, 47, 99, 117, 116, 46, 112, 121]) 642)]), #[]⟩
noncomputable def o182_p4 (P : Params) : Obj := ⟨(.type PySem.W.SL.s7174869446012820540x8), none, (.func ⟨(Str.mk #[95, 95, 108, 101, 110, 95, 95]), (Str.mk #[72, 101, 97, 100, 101, 114, 115, 46, 95, 95, 108, 101, 110, 95, 95]), (fdOf (mth 15 2)).1, (.stmts (fdOf (mth 15 2)).2.1), (fdOf (mth 15 2)).2.2, 3, [], .none, .none, .none, (.str (Str.mk #[99, 112, 121, 51, 49, 51, 46, 119, 115, 103, 105, 114, 101, 102, 46, 104, 101, 97, 100, 101, 114, 115]) 499), none, (.ref 181), .none, 0⟩), #[]⟩
noncomputable def o183_p4 (P : Params) : Obj := ⟨(.type PySem.W.SL.s2766695959194262286x5), none, (.seq #[] 0), #[]⟩
noncomputable def o184_p4 (P : Params) : Obj := ⟨.none, none, (.fields #[]), #[]⟩
noncomputable def o185_p4 (P : Params) : Obj := ⟨(.type PySem.W.SL.s2766695959194262286x5), none, (.seq #[(.str (Str.mk #[115, 101, 108, 102]) 647), (.str (Str.mk #[110, 97, 109, 101]) 648), (.str (Str.mk #[118, 97, 108]) 649)] 0), #[]⟩
noncomputable def o186_p4 (P : Params) : Obj := ⟨(.type PySem.W.SL.s2766695959194262286x5), none, (.seq #[] 0), #[]⟩
noncomputable def o187_p4 (P : Params) : Obj := ⟨.none, none, (.func ⟨(Str.mk #[95, 95, 115, 101, 116, 105, 116, 101, 109, 95, 95]), (Str.mk #[72, 101, 97, 100, 101, 114, 115, 46, 95, 95, 115, 101, 116, 105, 116, 101, 109, 95, 95]), (fdOf (mth 15 3)).1, (.stmts (fdOf (mth 15 3)).2.1), (fdOf (mth 15 3)).2.2, 0, [], .none, .none, .none, .none, none, .none, .none, 0⟩), #[]⟩
noncomputable def o188_p4 (P : Params) : Obj := ⟨(.type PySem.W.SL.s5856160107412720595x4), none, (.fields #[(.str (Str.mk #[95, 95, 115, 101, 116, 105, 116, 101, 109, 95, 95]) 644), (.str (Str.mk #[72, 101, 97, 100, 101, 114, 115, 46, 95, 95, 115, 101, 116, 105, 116, 101, 109, 95, 95]) 645), (.str (Str.mk #[47, 99, 108, 97, 105, 109, 47, 99, 117, 116, 46, 112, 121]) 646), (.int 107 0), (.int 3 0), (.int 0 0), (.int 0 0), (.int 3 0), (.ref 183), (.bool true), (.int 276 0), (.ref 184), .none, (.ref 185), (.ref 186), (.ref 187), (.int 650 0), (.int 107 0), (.str (Str.mk #[47, 99, 108, 97, 105, 109, 47, 99, 117, 116, 46, 112, 121]) 651)]), #[]⟩
noncomputable def o189_p4 (P : Params) : Obj := ⟨(.type PySem.W.SL.s7174869446012820540x8), none, (.func ⟨(Str.mk #[95, 95, 115, 101, 116, 105, 116, 101, 109, 95, 95]), (Str.mk #[72, 101, 97, 100, 101, 114, 115, 46, 95, 95, 115, 101, 116, 105, 116, 101, 109, 95, 95]), (fdOf (mth 15 3)).1, (.stmts (fdOf (mth 15 3)).2.1), (fdOf (mth 15 3)).2.2, 3, [], .none, .none, .none, (.str (Str.mk #[99, 112, 121, 51, 49, 51, 46, 119, 115, 103, 105, 114, 101, 102, 46, 104, 101, 97, 100, 101, 114, 115]) 499), none, (.ref 188), .none, 0⟩), #[]⟩
noncomputable def o190_p4 (P : Params) : Obj := ⟨(.type PySem.W.SL.s2766695959194262286x5), none, (.seq #[] 0), #[]⟩
noncomputable def o191_p4 (P : Params) : Obj := ⟨.none, none, (.fields #[]), #[]⟩
noncomputable def o192_p4 (P : Params) : Obj := ⟨.none, none, (.func ⟨(Str.mk #[95, 95, 100, 101, 108, 105, 116, 101, 109, 95, 95]), (Str.mk #[72, 101, 97, 100, 101, 114, 115, 46, 95, 95, 100, 101, 108, 105, 116, 101, 109, 95, 95]), (fdOf (mth 15 4)).1, (.stmts (fdOf (mth 15 4)).2.1), (fdOf (mth 15 4)).2.2, 0, [], .none, .none, .none, .none, none, .none, .none, 0⟩), #[]⟩
noncomputable def o193_p4 (P : Params) : Obj := ⟨(.type PySem.W.SL.s5856160107412720595x4), none, (.fields #[(.str (Str.mk #[95, 95, 100, 101, 108, 105, 116, 101, 109, 95, 95]) 653), (.str (Str.mk #[72, 101, 97, 100, 101, 114, 115, 46, 95, 95, 100, 101, 108, 105, 116, 101, 109, 95, 95]) 654), (.str (Str.mk #[47, 99, 108, 97, 105, 109, 47, 99, 117, 116, 46, 112, 121]) 655), (.int 111 0), (.int 2 0), (.int 0 0), (.int 0 0), (.int 3 0), (.ref 190), (.bool true), (.int 276 0), (.ref 191), .none, .none, .none, (.ref 192), (.int 656 0), (.int 111 0), (.str (Str.mk #[47, 99, 108, 97, 105, 109, 47, 99, 117, 116, 46, 112, 121]) 657)]), #[]⟩
noncomputable def o194_p4 (P : Params) : Obj := ⟨(.type PySem.W.SL.s7174869446012820540x8), none, (.func ⟨(Str.mk #[95, 95, 100, 101, 108, 105, 116, 101, 109, 95, 95]), (Str.mk #[72, 101, 97, 100, 101, 114, 115, 46, 95, 95, 100, 101, 108, 105, 116, 101, 109, 95, 95]), (fdOf (mth 15 4)).1, (.stmts (fdOf (mth 15 4)).2.1), (fdOf (mth 15 4)).2.2, 3, [], .none, .none, .none, (.str (Str.mk #[99, 112, 121, 51, 49, 51, 46, 119, 115, 103, 105, 114, 101, 102, 46, 104, 101, 97, 100, 101, 114, 115]) 499), none, (.ref 193), .none, 0⟩), #[]⟩
noncomputable def o195_p4 (P : Params) : Obj := ⟨(.type PySem.W.SL.s2766695959194262286x5), none, (.seq #[] 0), #[]⟩
noncomputable def o196_p4 (P : Params) : Obj := ⟨.none, none, (.fields #[]), #[]⟩
noncomputable def o197_p4 (P : Params) : Obj := ⟨(.type PySem.W.SL.s2766695959194262286x5), none, (.seq #[(.str (Str.mk #[115, 101, 108, 102]) 662), (.str (Str.mk #[110, 97, 109, 101]) 663)] 0), #[]⟩
noncomputable def o198_p4 (P : Params) : Obj := ⟨(.type PySem.W.SL.s2766695959194262286x5), none, (.seq #[] 0), #[]⟩
noncomputable def o199_p4 (P : Params) : Obj := ⟨.none, none, (.func ⟨(Str.mk #[95, 95, 103, 101, 116, 105, 116, 101, 109, 95, 95]), (Str.mk #[72, 101, 97, 100, 101, 114, 115, 46, 95, 95, 103, 101, 116, 105, 116, 101, 109, 95, 95]), (fdOf (mth 15 5)).1, (.stmts (fdOf (mth 15 5)).2.1), (fdOf (mth 15 5)).2.2, 0, [], .none, .none, .none, .none, none, .none, .none, 0⟩), #[]⟩
noncomputable def o200_p4 (P : Params) : Obj := ⟨(.type PySem.W.SL.s5856160107412720595x4), none, (.fields #[(.str (Str.mk #[95, 95, 103, 101, 116, 105, 116, 101, 109, 95, 95]) 659), (.str (Str.mk #[72, 101, 97, 100, 101, 114, 115, 46, 95, 95, 103, 101, 116, 105, 116, 101, 109, 95, 95]) 660), (.str (Str.mk #[47, 99, 108, 97, 105, 109, 47, 99, 117, 116, 46, 112, 121]) 661), (.int 115 0), (.int 2 0), (.int 0 0), (.int 0 0), (.int 3 0), (.ref 195), (.bool true), (.int 276 0), (.ref 196), .none, (.ref 197), (.ref 198), (.ref 199), (.int 664 0), (.int 115 0), (.str (Str.mk #[47, 99, 108, 97, 105, 109, 47, 99, 117, 116, 46, 112, 121]) 665)]), #[]⟩
noncomputable def o201_p4 (P : Params) : Obj := ⟨(.type PySem.W.SL.s7174869446012820540x8), none, (.func ⟨(Str.mk #[95, 95, 103, 101, 116, 105, 116, 101, 109, 95, 95]), (Str.mk #[72, 101, 97, 100, 101, 114, 115, 46, 95, 95, 103, 101, 116, 105, 116, 101, 109, 95, 95]), (fdOf (mth 15 5)).1, (.stmts (fdOf (mth 15 5)).2.1), (fdOf (mth 15 5)).2.2, 3, [], .none, .none, .none, (.str (Str.mk #[99, 112, 121, 51, 49, 51, 46, 119, 115, 103, 105, 114, 101, 102, 46, 104, 101, 97, 100, 101, 114, 115]) 499), none, (.ref 200), .none, 0⟩), #[]⟩
noncomputable def o202_p4 (P : Params) : Obj := ⟨(.type PySem.W.SL.s2766695959194262286x5), none, (.seq #[] 0), #[]⟩
noncomputable def o203_p4 (P : Params) : Obj := ⟨.none, none, (.fields #[]), #[]⟩
noncomputable def o204_p4 (P : Params) : Obj := ⟨(.type PySem.W.SL.s2766695959194262286x5), none, (.seq #[(.str (Str.mk #[115, 101, 108, 102]) 670), (.str (Str.mk #[110, 97, 109, 101]) 671)] 0), #[]⟩
noncomputable def o205_p4 (P : Params) : Obj := ⟨(.type PySem.W.SL.s2766695959194262286x5), none, (.seq #[] 0), #[]⟩
noncomputable def o206_p4 (P : Params) : Obj := ⟨.none, none, (.func ⟨(Str.mk #[95, 95, 99, 111, 110, 116, 97, 105, 110, 115, 95, 95]), (Str.mk #[72, 101, 97, 100, 101, 114, 115, 46, 95, 95, 99, 111, 110, 116, 97, 105, 110, 115, 95, 95]), (fdOf (mth 15 6)).1, (.stmts (fdOf (mth 15 6)).2.1), (fdOf (mth 15 6)).2.2, 0, [], .none, .none, .none, .none, none, .none, .none, 0⟩), #[]⟩
noncomputable def o207_p4 (P : Params) : Obj := ⟨(.type PySem.W.SL.s5856160107412720595x4), none, (.fields #[(.str (Str.mk #[95, 95, 99, 111, 110, 116, 97, 105, 110, 115, 95, 95]) 667), (.str (Str.mk #[72, 101, 97, 100, 101, 114, 115, 46, 95, 95, 99, 111, 110, 116, 97, 105, 110, 115, 95, 95]) 668), (.str (Str.mk #[47, 99, 108, 97, 105, 109, 47, 99, 117, 116, 46, 112, 121]) 669), (.int 118 0), (.int 2 0), (.int 0 0), (.int 0 0), (.int 3 0), (.ref 202), (.bool true), (.int 276 0), (.ref 203), .none, (.ref 204), (.ref 205), (.ref 206), (.int 672 0), (.int 118 0), (.str (Str.mk #[47, 99, 108, 97, 105, 109, 47, 99, 117, 116, 46, 112, 121]) 673)]), #[]⟩
noncomputable def o208_p4 (P : Params) : Obj := ⟨(.type PySem.W.SL.s7174869446012820540x8), none, (.func ⟨(Str.mk #[95, 95, 99, 111, 110, 116, 97, 105, 110, 115, 95, 95]), (Str.mk #[72, 101, 97, 100, 101, 114, 115, 46, 95, 95, 99, 111, 110, 116, 97, 105, 110, 115, 95, 95]), (fdOf (mth 15 6)).1, (.stmts (fdOf (mth 15 6)).2.1), (fdOf (mth 15 6)).2.2, 3, [], .none, .none, .none, (.str (Str.mk #[99, 112, 121, 51, 49, 51, 46, 119, 115, 103, 105, 114, 101, 102, 46, 104, 101, 97, 100, 101, 114, 115]) 499), none, (.ref 207), .none, 0⟩), #[]⟩
noncomputable def o209_p4 (P : Params) : Obj := ⟨(.type PySem.W.SL.s2766695959194262286x5), none, (.seq #[] 0), #[]⟩
noncomputable def o210_p4 (P : Params) : Obj := ⟨.none, none, (.fields #[]), #[]⟩
noncomputable def o211_p4 (P : Params) : Obj := ⟨(.type PySem.W.SL.s2766695959194262286x5), none, (.seq #[(.str (Str.mk #[115, 101, 108, 102]) 678), (.str (Str.mk #[110, 97, 109, 101]) 679)] 0), #[]⟩
noncomputable def o212_p4 (P : Params) : Obj := ⟨(.type PySem.W.SL.s2766695959194262286x5), none, (.seq #[] 0), #[]⟩
noncomputable def o213_p4 (P : Params) : Obj := ⟨.none, none, (.func ⟨(Str.mk #[103, 101, 116, 95, 97, 108, 108]), (Str.mk #[72, 101, 97, 100, 101, 114, 115, 46, 103, 101, 116, 95, 97, 108, 108]), (fdOf (mth 15 7)).1, (.stmts (fdOf (mth 15 7)).2.1), (fdOf (mth 15 7)).2.2, 0, [], .none, .none, .none, .none, none, .none, .none, 0⟩), #[]⟩
noncomputable def o214_p4 (P : Params) : Obj := ⟨(.type PySem.W.SL.s5856160107412720595x4), none, (.fields #[(.str (Str.mk #[103, 101, 116, 95, 97, 108, 108]) 675), (.str (Str.mk #[72, 101, 97, 100, 101, 114, 115, 46, 103, 101, 116, 95, 97, 108, 108]) 676), (.str (Str.mk #[47, 99, 108, 97, 105, 109, 47, 99, 117, 116, 46, 112, 121]) 677), (.int 121 0), (.int 2 0), (.int 0 0), (.int 0 0), (.int 3 0), (.ref 209), (.bool true), (.int 276 0), (.ref 210), .none, (.ref 211), (.ref 212), (.ref 213), (.int 680 0), (.int 121 0), (.str (Str.mk #[47, 99, 108, 97, 105, 109, 47, 99, 117, 116, 46, 112, 121]) 681)]), #[]⟩
noncomputable def o215_p4 (P : Params) : Obj := ⟨(.type PySem.W.SL.s7174869446012820540x8), none, (.func ⟨(Str.mk #[103, 101, 116, 95, 97, 108, 108]), (Str.mk #[72, 101, 97, 100, 101, 114, 115, 46, 103, 101, 116, 95, 97, 108, 108]), (fdOf (mth 15 7)).1, (.stmts (fdOf (mth 15 7)).2.1), (fdOf (mth 15 7)).2.2, 3, [], .none, .none, .none, (.str (Str.mk #[99, 112, 121, 51, 49, 51, 46, 119, 115, 103, 105, 114, 101, 102, 46, 104, 101, 97, 100, 101, 114, 115]) 499), none, (.ref 214), .none, 0⟩), #[]⟩
noncomputable def o216_p4 (P : Params) : Obj := ⟨(.type PySem.W.SL.s2766695959194262286x5), none, (.seq #[.none] 0), #[]⟩
noncomputable def o217_p4 (P : Params) : Obj := ⟨(.type PySem.W.SL.s2766695959194262286x5), none, (.seq #[] 0), #[]⟩
noncomputable def o218_p4 (P : Params) : Obj := ⟨.none, none, (.fields #[]), #[]⟩
noncomputable def o219_p4 (P : Params) : Obj := ⟨(.type PySem.W.SL.s2766695959194262286x5), none, (.seq #[(.str (Str.mk #[115, 101, 108, 102]) 686), (.str (Str.mk #[110, 97, 109, 101]) 687), (.str (Str.mk #[100, 101, 102, 97, 117, 108, 116]) 688), (.str (Str.mk #[107]) 689), (.str (Str.mk #[118]) 690)] 0), #[]⟩
noncomputable def o220_p4 (P : Params) : Obj := ⟨(.type PySem.W.SL.s2766695959194262286x5), none, (.seq #[] 0), #[]⟩
noncomputable def o221_p4 (P : Params) : Obj := ⟨.none, none, (.func ⟨(Str.mk #[103, 101, 116]), (Str.mk #[72, 101, 97, 100, 101, 114, 115, 46, 103, 101, 116]), (fdOf (mth 15 8)).1, (.stmts (fdOf (mth 15 8)).2.1), (fdOf (mth 15 8)).2.2, 0, [], .none, .none, .none, .none, none, .none, .none, 0⟩), #[]⟩
noncomputable def o222_p4 (P : Params) : Obj := ⟨(.type PySem.W.SL.s5856160107412720595x4), none, (.fields #[(.str (Str.mk #[103, 101, 116]) 683), (.str (Str.mk #[72, 101, 97, 100, 101, 114, 115, 46, 103, 101, 116]) 684), (.str (Str.mk #[47, 99, 108, 97, 105, 109, 47, 99, 117, 116, 46, 112, 121]) 685), (.int 124 0), (.int 3 0), (.int 0 0), (.int 0 0), (.int 3 0), (.ref 217), (.bool true), (.int 276 0), (.ref 218), .none, (.ref 219), (.ref 220), (.ref 221), (.int 691 0), (.int 124 0), (.str (Str.mk #[47, 99, 108, 97, 105, 109, 47, 99, 117, 116, 46, 112, 121]) 692)]), #[]⟩
noncomputable def o223_p4 (P : Params) : Obj := ⟨(.type PySem.W.SL.s7174869446012820540x8), none, (.func ⟨(Str.mk #[103, 101, 116]), (Str.mk #[72, 101, 97, 100, 101, 114, 115, 46, 103, 101, 116]), (fdOf (mth 15 8)).1, (.stmts (fdOf (mth 15 8)).2.1), (fdOf (mth 15 8)).2.2, 3, [], (.ref 216), .none, .none, (.str (Str.mk #[99, 112, 121, 51, 49, 51, 46, 119, 115, 103, 105, 114, 101, 102, 46, 104, 101, 97, 100, 101, 114, 115]) 499), none, (.ref 222), .none, 0⟩), #[]⟩
noncomputable def o224_p4 (P : Params) : Obj := ⟨(.type PySem.W.SL.s2766695959194262286x5), none, (.seq #[] 0), #[]⟩
noncomputable def o225_p4 (P : Params) : Obj := ⟨.none, none, (.fields #[]), #[]⟩
noncomputable def o226_p4 (P : Params) : Obj := ⟨.none, none, (.func ⟨(Str.mk #[107, 101, 121, 115]), (Str.mk #[72, 101, 97, 100, 101, 114, 115, 46, 107, 101, 121, 115]), (fdOf (mth 15 9)).1, (.stmts (fdOf (mth 15 9)).2.1), (fdOf (mth 15 9)).2.2, 0, [], .none, .none, .none, .none, none, .none, .none, 0⟩), #[]⟩
noncomputable def o227_p4 (P : Params) : Obj := ⟨(.type PySem.W.SL.s5856160107412720595x4), none, (.fields #[(.str (Str.mk #[107, 101, 121, 115]) 694), (.str (Str.mk #[72, 101, 97, 100, 101, 114, 115, 46, 107, 101, 121, 115]) 695), (.str (Str.mk #[47, 99, 108, 97, 105, 109, 47, 99, 117, 116, 46, 112, 121]) 696), (.int 131 0), (.int 1 0), (.int 0 0), (.int 0 0), (.int 3 0), (.ref 224), (.bool true), (.int 276 0), (.ref 225), .none, .none, .none, (.ref 226), (.int 697 0), (.int 131 0), (.str (Str.mk #[47, 99, 108, 97, 105, 109, 47, 99, 117, 116, 46, 112, 121]) 698)]), #[]⟩
noncomputable def o228_p4 (P : Params) : Obj := ⟨(.type PySem.W.SL.s7174869446012820540x8), none, (.func ⟨(Str.mk #[107, 101, 121, 115]), (Str.mk #[72, 101, 97, 100, 101, 114, 115, 46, 107, 101, 121, 115]), (fdOf (mth 15 9)).1, (.stmts (fdOf (mth 15 9)).2.1), (fdOf (mth 15 9)).2.2, 3, [], .none, .none, .none, (.str (Str.mk #[99, 112, 121, 51, 49, 51, 46, 119, 115, 103, 105, 114, 101, 102, 46, 104, 101, 97, 100, 101, 114, 115]) 499), none, (.ref 227), .none, 0⟩), #[]⟩
noncomputable def o229_p4 (P : Params) : Obj := ⟨(.type PySem.W.SL.s2766695959194262286x5), none, (.seq #[] 0), #[]⟩
noncomputable def o230_p4 (P : Params) : Obj := ⟨.none, none, (.fields #[]), #[]⟩
noncomputable def o231_p4 (P : Params) : Obj := ⟨.none, none, (.func ⟨(Str.mk #[118, 97, 108, 117, 101, 115]), (Str.mk #[72, 101, 97, 100, 101, 114, 115, 46, 118, 97, 108, 117, 101, 115]), (fdOf (mth 15 10)).1, (.stmts (fdOf (mth 15 10)).2.1), (fdOf (mth 15 10)).2.2, 0, [], .none, .none, .none, .none, none, .none, .none, 0⟩), #[]⟩
noncomputable def o232_p4 (P : Params) : Obj := ⟨(.type PySem.W.SL.s5856160107412720595x4), none, (.fields #[(.str (Str.mk #[118, 97, 108, 117, 101, 115]) 700), (.str (Str.mk #[72, 101, 97, 100, 101, 114, 115, 46, 118, 97, 108, 117, 101, 115]) 701), (.str (Str.mk #[47, 99, 108, 97, 105, 109, 47, 99, 117, 116, 46, 112, 121]) 702), (.int 134 0), (.int 1 0), (.int 0 0), (.int 0 0), (.int 3 0), (.ref 229), (.bool true), (.int 276 0), (.ref 230), .none, .none, .none, (.ref 231), (.int 703 0), (.int 134 0), (.str (Str.mk #[47, 99, 108, 97, 105, 109, 47, 99, 117, 116, 46, 112, 121]) 704)]), #[]⟩
noncomputable def o233_p4 (P : Params) : Obj := ⟨(.type PySem.W.SL.s7174869446012820540x8), none, (.func ⟨(Str.mk #[118, 97, 108, 117, 101, 115]), (Str.mk #[72, 101, 97, 100, 101, 114, 115, 46, 118, 97, 108, 117, 101, 115]), (fdOf (mth 15 10)).1, (.stmts (fdOf (mth 15 10)).2.1), (fdOf (mth 15 10)).2.2, 3, [], .none, .none, .none, (.str (Str.mk #[99, 112, 121, 51, 49, 51, 46, 119, 115, 103, 105, 114, 101, 102, 46, 104, 101, 97, 100, 101, 114, 115]) 499), none, (.ref 232), .none, 0⟩), #[]⟩
noncomputable def o234_p4 (P : Params) : Obj := ⟨(.type PySem.W.SL.s2766695959194262286x5), none, (.seq #[] 0), #[]⟩
noncomputable def o235_p4 (P : Params) : Obj := ⟨.none, none, (.fields #[]), #[]⟩
noncomputable def o236_p4 (P : Params) : Obj := ⟨(.type PySem.W.SL.s2766695959194262286x5), none, (.seq #[(.str (Str.mk #[115, 101, 108, 102]) 709)] 0), #[]⟩
noncomputable def o237_p4 (P : Params) : Obj := ⟨(.type PySem.W.SL.s2766695959194262286x5), none, (.seq #[] 0), #[]⟩
noncomputable def o238_p4 (P : Params) : Obj := ⟨.none, none, (.func ⟨(Str.mk #[105, 116, 101, 109, 115]), (Str.mk #[72, 101, 97, 100, 101, 114, 115, 46, 105, 116, 101, 109, 115]), (fdOf (mth 15 11)).1, (.stmts (fdOf (mth 15 11)).2.1), (fdOf (mth 15 11)).2.2, 0, [], .none, .none, .none, .none, none, .none, .none, 0⟩), #[]⟩
noncomputable def o239_p4 (P : Params) : Obj := ⟨(.type PySem.W.SL.s5856160107412720595x4), none, (.fields #[(.str (Str.mk #[105, 116, 101, 109, 115]) 706), (.str (Str.mk #[72, 101, 97, 100, 101, 114, 115, 46, 105, 116, 101, 109, 115]) 707), (.str (Str.mk #[47, 99, 108, 97, 105, 109, 47, 99, 117, 116, 46, 112, 121]) 708), (.int 137 0), (.int 1 0), (.int 0 0), (.int 0 0), (.int 3 0), (.ref 234), (.bool true), (.int 276 0), (.ref 235), .none, (.ref 236), (.ref 237), (.ref 238), (.int 710 0), (.int 137 0), (.str (Str.mk #[47, 99, 108, 97, 105, 109, 47, 99, 117, 116, 46, 112, 121]) 711)]), #[]⟩
noncomputable def o240_p4 (P : Params) : Obj := ⟨(.type PySem.W.SL.s7174869446012820540x8), none, (.func ⟨(Str.mk #[105, 116, 101, 109, 115]), (Str.mk #[72, 101, 97, 100, 101, 114, 115, 46, 105, 116, 101, 109, 115]), (fdOf (mth 15 11)).1, (.stmts (fdOf (mth 15 11)).2.1), (fdOf (mth 15 11)).2.2, 3, [], .none, .none, .none, (.str (Str.mk #[99, 112, 121, 51, 49, 51, 46, 119, 115, 103, 105, 114, 101, 102, 46, 104, 101, 97, 100, 101, 114, 115]) 499), none, (.ref 239), .none, 0⟩), #[]⟩
noncomputable def o241_p4 (P : Params) : Obj := ⟨(.type PySem.W.SL.s2766695959194262286x5), none, (.seq #[] 0), #[]⟩
noncomputable def o242_p4 (P : Params) : Obj := ⟨.none, none, (.fields #[]), #[]⟩
noncomputable def o243_p4 (P : Params) : Obj := ⟨(.type PySem.W.SL.s2766695959194262286x5), none, (.seq #[(.str (Str.mk #[115, 101, 108, 102]) 716)] 0), #[]⟩
noncomputable def o244_p4 (P : Params) : Obj := ⟨(.type PySem.W.SL.s2766695959194262286x5), none, (.seq #[] 0), #[]⟩
noncomputable def o245_p4 (P : Params) : Obj := ⟨.none, none, (.func ⟨(Str.mk #[95, 95, 114, 101, 112, 114, 95, 95]), (Str.mk #[72, 101, 97, 100, 101, 114, 115, 46, 95, 95, 114, 101, 112, 114, 95, 95]), (fdOf (mth 15 12)).1, (.stmts (fdOf (mth 15 12)).2.1), (fdOf (mth 15 12)).2.2, 0, [], .none, .none, .none, .none, none, .none, .none, 0⟩), #[]⟩
noncomputable def o246_p4 (P : Params) : Obj := ⟨(.type PySem.W.SL.s5856160107412720595x4), none, (.fields #[(.str (Str.mk #[95, 95, 114, 101, 112, 114, 95, 95]) 713), (.str (Str.mk #[72, 101, 97, 100, 101, 114, 115, 46, 95, 95, 114, 101, 112, 114, 95, 95]) 714), (.str (Str.mk #[47, 99, 108, 97, 105, 109, 47, 99, 117, 116, 46, 112, 121]) 715), (.int 140 0), (.int 1 0), (.int 0 0), (.int 0 0), (.int 3 0), (.ref 241), (.bool true), (.int 276 0), (.ref 242), .none, (.ref 243), (.ref 244), (.ref 245), (.int 717 0), (.int 140 0), (.str (Str.mk #[47, 99, 108, 97, 105, 109, 47, 99, 117, 116, 46, 112, 121]) 718)]), #[]⟩
noncomputable def o247_p4 (P : Params) : Obj := ⟨(.type PySem.W.SL.s7174869446012820540x8), none, (.func ⟨(Str.mk #[95, 95, 114, 101, 112, 114, 95, 95]), (Str.mk #[72, 101, 97, 100, 101, 114, 115, 46, 95, 95, 114, 101, 112, 114, 95, 95]), (fdOf (mth 15 12)).1, (.stmts (fdOf (mth 15 12)).2.1), (fdOf (mth 15 12)).2.2, 3, [], .none, .none, .none, (.str (Str.mk #[99, 112, 121, 51, 49, 51, 46, 119, 115, 103, 105, 114, 101, 102, 46, 104, 101, 97, 100, 101, 114, 115]) 499), none, (.ref 246), .none, 0⟩), #[]⟩
noncomputable def o248_p4 (P : Params) : Obj := ⟨(.type PySem.W.SL.s2766695959194262286x5), none, (.seq #[] 0), #[]⟩
noncomputable def o249_p4 (P : Params) : Obj := ⟨.none, none, (.fields #[]), #[]⟩
noncomputable def o250_p4 (P : Params) : Obj := ⟨.none, none, (.func ⟨(Str.mk #[95, 95, 115, 116, 114, 95, 95]), (Str.mk #[72, 101, 97, 100, 101, 114, 115, 46, 95, 95, 115, 116, 114, 95, 95]), (fdOf (mth 15 13)).1, (.stmts (fdOf (mth 15 13)).2.1), (fdOf (mth 15 13)).2.2, 0, [], .none, .none, .none, .none, none, .none, .none, 0⟩), #[]⟩
noncomputable def o251_p4 (P : Params) : Obj := ⟨(.type PySem.W.SL.s5856160107412720595x4), none, (.fields #[(.str (Str.mk #[95, 95, 115, 116, 114, 95, 95]) 720), (.str (Str.mk #[72, 101, 97, 100, 101, 114, 115, 46, 95, 95, 115, 116, 114, 95, 95]) 721), (.str (Str.mk #[47, 99, 108, 97, 105, 109, 47, 99, 117, 116, 46, 112, 121]) 722), (.int 143 0), (.int 1 0), (.int 0 0), (.int 0 0), (.int 3 0), (.ref 248), (.bool true), (.int 276 0), (.ref 249), .none, .none, .none, (.ref 250), (.int 723 0), (.int 143 0), (.str (Str.mk #[47, 99, 108, 97, 105, 109, 47, 99, 117, 116, 46, 112, 121]) 724)]), #[]⟩
noncomputable def o252_p4 (P : Params) : Obj := ⟨(.type PySem.W.SL.s7174869446012820540x8), none, (.func ⟨(Str.mk #[95, 95, 115, 116, 114, 95, 95]), (Str.mk #[72, 101, 97, 100, 101, 114, 115, 46, 95, 95, 115, 116, 114, 95, 95]), (fdOf (mth 15 13)).1, (.stmts (fdOf (mth 15 13)).2.1), (fdOf (mth 15 13)).2.2, 3, [], .none, .none, .none, (.str (Str.mk #[99, 112, 121, 51, 49, 51, 46, 119, 115, 103, 105, 114, 101, 102, 46, 104, 101, 97, 100, 101, 114, 115]) 499), none, (.ref 251), .none, 0⟩), #[]⟩
noncomputable def o253_p4 (P : Params) : Obj := ⟨(.type PySem.W.SL.s2766695959194262286x5), none, (.seq #[] 0), #[]⟩
noncomputable def o254_p4 (P : Params) : Obj := ⟨.none, none, (.fields #[]), #[]⟩
noncomputable def o255_p4 (P : Params) : Obj := ⟨(.type PySem.W.SL.s2766695959194262286x5), none, (.seq #[(.str (Str.mk #[115, 101, 108, 102]) 729)] 0), #[]⟩
noncomputable def o256_p4 (P : Params) : Obj := ⟨(.type PySem.W.SL.s2766695959194262286x5), none, (.seq #[] 0), #[]⟩
noncomputable def o257_p4 (P : Params) : Obj := ⟨.none, none, (.func ⟨(Str.mk #[95, 95, 98, 121, 116, 101, 115, 95, 95]), (Str.mk #[72, 101, 97, 100, 101, 114, 115, 46, 95, 95, 98, 121, 116, 101, 115, 95, 95]), (fdOf (mth 15 14)).1, (.stmts (fdOf (mth 15 14)).2.1), (fdOf (mth 15 14)).2.2, 0, [], .none, .none, .none, .none, none, .none, .none, 0⟩), #[]⟩
noncomputable def o258_p4 (P : Params) : Obj := ⟨(.type PySem.W.SL.s5856160107412720595x4), none, (.fields #[(.str (Str.mk #[95, 95, 98, 121, 116, 101, 115, 95, 95]) 726), (.str (Str.mk #[72, 101, 97, 100, 101, 114, 115, 46, 95, 95, 98, 121, 116, 101, 115, 95, 95]) 727), (.str (Str.mk #[47, 99, 108, 97, 105, 109, 47, 99, 117, 116, 46, 112, 121]) 728), (.int 146 0), (.int 1 0), (.int 0 0), (.int 0 0), (.int 3 0), (.ref 253), (.bool true), (.int 276 0), (.ref 254), .none, (.ref 255), (.ref 256), (.ref 257), (.int 730 0), (.int 146 0), (.str (Str.mk #[47, 99, 108, 97, 105, 109, 47, 99, 117, 116, 46, 112, 121]) 731)]), #[]⟩
noncomputable def o259_p4 (P : Params) : Obj := ⟨(.type PySem.W.SL.s7174869446012820540x8), none, (.func ⟨(Str.mk #[95, 95, 98, 121, 116, 101, 115, 95, 95]), (Str.mk #[72, 101, 97, 100, 101, 114, 115, 46, 95, 95, 98, 121, 116, 101, 115, 95, 95]), (fdOf (mth 15 14)).1, (.stmts (fdOf (mth 15 14)).2.1), (fdOf (mth 15 14)).2.2, 3, [], .none, .none, .none, (.str (Str.mk #[99, 112, 121, 51, 49, 51, 46, 119, 115, 103, 105, 114, 101, 102, 46, 104, 101, 97, 100, 101, 114, 115]) 499), none, (.ref 258), .none, 0⟩), #[]⟩
noncomputable def o260_p4 (P : Params) : Obj := ⟨(.type PySem.W.SL.s2766695959194262286x5), none, (.seq #[] 0), #[]⟩
noncomputable def o261_p4 (P : Params) : Obj := ⟨.none, none, (.fields #[]), #[]⟩
noncomputable def o262_p4 (P : Params) : Obj := ⟨(.type PySem.W.SL.s2766695959194262286x5), none, (.seq #[(.str (Str.mk #[115, 101, 108, 102]) 736), (.str (Str.mk #[110, 97, 109, 101]) 737), (.str (Str.mk #[118, 97, 108, 117, 101]) 738)] 0), #[]⟩
noncomputable def o263_p4 (P : Params) : Obj := ⟨(.type PySem.W.SL.s2766695959194262286x5), none, (.seq #[] 0), #[]⟩
noncomputable def o264_p4 (P : Params) : Obj := ⟨.none, none, (.func ⟨(Str.mk #[115, 101, 116, 100, 101, 102, 97, 117, 108, 116]), (Str.mk #[72, 101, 97, 100, 101, 114, 115, 46, 115, 101, 116, 100, 101, 102, 97, 117, 108, 116]), (fdOf (mth 15 15)).1, (.stmts (fdOf (mth 15 15)).2.1), (fdOf (mth 15 15)).2.2, 0, [], .none, .none, .none, .none, none, .none, .none, 0⟩), #[]⟩
noncomputable def o265_p4 (P : Params) : Obj := ⟨(.type PySem.W.SL.s5856160107412720595x4), none, (.fields #[(.str (Str.mk #[115, 101, 116, 100, 101, 102, 97, 117, 108, 116]) 733), (.str (Str.mk #[72, 101, 97, 100, 101, 114, 115, 46, 115, 101, 116, 100, 101, 102, 97, 117, 108, 116]) 734), (.str (Str.mk #[47, 99, 108, 97, 105, 109, 47, 99, 117, 116, 46, 112, 121]) 735), (.int 149 0), (.int 3 0), (.int 0 0), (.int 0 0), (.int 3 0), (.ref 260), (.bool true), (.int 276 0), (.ref 261), .none, (.ref 262), (.ref 263), (.ref 264), (.int 739 0), (.int 149 0), (.str (Str.mk #[47, 99, 108, 97, 105, 109, 47, 99, 117, 116, 46, 112, 121]) 740)]), #[]⟩
noncomputable def o266_p4 (P : Params) : Obj := ⟨(.type PySem.W.SL.s7174869446012820540x8), none, (.func ⟨(Str.mk #[115, 101, 116, 100, 101, 102, 97, 117, 108, 116]), (Str.mk #[72, 101, 97, 100, 101, 114, 115, 46, 115, 101, 116, 100, 101, 102, 97, 117, 108, 116]), (fdOf (mth 15 15)).1, (.stmts (fdOf (mth 15 15)).2.1), (fdOf (mth 15 15)).2.2, 3, [], .none, .none, .none, (.str (Str.mk #[99, 112, 121, 51, 49, 51, 46, 119, 115, 103, 105, 114, 101, 102, 46, 104, 101, 97, 100, 101, 114, 115]) 499), none, (.ref 265), .none, 0⟩), #[]⟩
noncomputable def o267_p4 (P : Params) : Obj := ⟨(.type PySem.W.SL.s2766695959194262286x5), none, (.seq #[] 0), #[]⟩
noncomputable def o268_p4 (P : Params) : Obj := ⟨.none, none, (.fields #[]), #[]⟩
noncomputable def o269_p4 (P : Params) : Obj := ⟨(.type PySem.W.SL.s2766695959194262286x5), none, (.seq #[(.str (Str.mk #[115, 101, 108, 102]) 745), (.str (Str.mk #[95, 110, 97, 109, 101]) 746), (.str (Str.mk #[95, 118, 97, 108, 117, 101]) 747), (.str (Str.mk #[95, 112, 97, 114, 97, 109, 115]) 748), (.str (Str.mk #[112, 97, 114, 116, 115]) 749), (.str (Str.mk #[107]) 750), (.str (Str.mk #[118]) 751)] 0), #[]⟩
noncomputable def o270_p4 (P : Params) : Obj := ⟨(.type PySem.W.SL.s2766695959194262286x5), none, (.seq #[] 0), #[]⟩
noncomputable def o271_p4 (P : Params) : Obj := ⟨.none, none, (.func ⟨(Str.mk #[97, 100, 100, 95, 104, 101, 97, 100, 101, 114]), (Str.mk #[72, 101, 97, 100, 101, 114, 115, 46, 97, 100, 100, 95, 104, 101, 97, 100, 101, 114]), (fdOf (mth 15 16)).1, (.stmts (fdOf (mth 15 16)).2.1), (fdOf (mth 15 16)).2.2, 0, [], .none, .none, .none, .none, none, .none, .none, 0⟩), #[]⟩
noncomputable def o272_p4 (P : Params) : Obj := ⟨(.type PySem.W.SL.s5856160107412720595x4), none, (.fields #[(.str (Str.mk #[97, 100, 100, 95, 104, 101, 97, 100, 101, 114]) 742), (.str (Str.mk #[72, 101, 97, 100, 101, 114, 115, 46, 97, 100, 100, 95, 104, 101, 97, 100, 101, 114]) 743), (.str (Str.mk #[47, 99, 108, 97, 105, 109, 47, 99, 117, 116, 46, 112, 121]) 744), (.int 152 0), (.int 3 0), (.int 0 0), (.int 0 0), (.int 11 0), (.ref 267), (.bool true), (.int 276 0), (.ref 268), .none, (.ref 269), (.ref 270), (.ref 271), (.int 752 0), (.int 152 0), (.str (Str.mk #[47, 99, 108, 97, 105, 109, 47, 99, 117, 116, 46, 112, 121]) 753)]), #[]⟩
noncomputable def o273_p4 (P : Params) : Obj := ⟨(.type PySem.W.SL.s7174869446012820540x8), none, (.func ⟨(Str.mk #[97, 100, 100, 95, 104, 101, 97, 100, 101, 114]), (Str.mk #[72, 101, 97, 100, 101, 114, 115, 46, 97, 100, 100, 95, 104, 101, 97, 100, 101, 114]), (fdOf (mth 15 16)).1, (.stmts (fdOf (mth 15 16)).2.1), (fdOf (mth 15 16)).2.2, 3, [], .none, .none, .none, (.str (Str.mk #[99, 112, 121, 51, 49, 51, 46, 119, 115, 103, 105, 114, 101, 102, 46, 104, 101, 97, 100, 101, 114, 115]) 499), none, (.ref 272), .none, 0⟩), #[]⟩
noncomputable def o274_p4 (P : Params) : Obj := ⟨(.type PySem.W.SL.s2766695959194262286x5), none, (.seq #[(.str (Str.mk #[95, 104, 101, 97, 100, 101, 114, 115]) 755)] 0), #[]⟩
noncomputable def o275_p4 (P : Params) : Obj := ⟨(.type PySem.W.SL.s14018661285674007319x4), none, (.dict #[⟨PyData.keyHash P (Str.mk #[95, 95, 109, 111, 100, 117, 108, 101, 95, 95]), (.str (Str.mk #[95, 95, 109, 111, 100, 117, 108, 101, 95, 95]) 612), (.str (Str.mk #[99, 112, 121, 51, 49, 51, 46, 119, 115, 103, 105, 114, 101, 102, 46, 104, 101, 97, 100, 101, 114, 115]) 499)⟩, ⟨PyData.keyHash P (Str.mk #[95, 95, 102, 105, 114, 115, 116, 108, 105, 110, 101, 110, 111, 95, 95]), (.str (Str.mk #[95, 95, 102, 105, 114, 115, 116, 108, 105, 110, 101, 110, 111, 95, 95]) 616), (.int 84 615)⟩, ⟨PyData.keyHash P (Str.mk #[95, 95, 105, 110, 105, 116, 95, 95]), (.str (Str.mk #[95, 95, 105, 110, 105, 116, 95, 95]) 626), (.ref 168)⟩, ⟨PyData.keyHash P (Str.mk #[95, 99, 111, 110, 118, 101, 114, 116, 95, 115, 116, 114, 105, 110, 103, 95, 116, 121, 112, 101]), (.str (Str.mk #[95, 99, 111, 110, 118, 101, 114, 116, 95, 115, 116, 114, 105, 110, 103, 95, 116, 121, 112, 101]) 636), (.ref 175)⟩, ⟨PyData.keyHash P (Str.mk #[95, 95, 108, 101, 110, 95, 95]), (.str (Str.mk #[95, 95, 108, 101, 110, 95, 95]) 643), (.ref 182)⟩, ⟨PyData.keyHash P (Str.mk #[95, 95, 115, 101, 116, 105, 116, 101, 109, 95, 95]), (.str (Str.mk #[95, 95, 115, 101, 116, 105, 116, 101, 109, 95, 95]) 652), (.ref 189)⟩, ⟨PyData.keyHash P (Str.mk #[95, 95, 100, 101, 108, 105, 116, 101, 109, 95, 95]), (.str (Str.mk #[95, 95, 100, 101, 108, 105, 116, 101, 109, 95, 95]) 658), (.ref 194)⟩, ⟨PyData.keyHash P (Str.mk #[95, 95, 103, 101, 116, 105, 116, 101, 109, 95, 95]), (.str (Str.mk #[95, 95, 103, 101, 116, 105, 116, 101, 109, 95, 95]) 666), (.ref 201)⟩, ⟨PyData.keyHash P (Str.mk #[95, 95, 99, 111, 110, 116, 97, 105, 110, 115, 95, 95]), (.str (Str.mk #[95, 95, 99, 111, 110, 116, 97, 105, 110, 115, 95, 95]) 674), (.ref 208)⟩, ⟨PyData.keyHash P (Str.mk #[103, 101, 116, 95, 97, 108, 108]), (.str (Str.mk #[103, 101, 116, 95, 97, 108, 108]) 682), (.ref 215)⟩, ⟨PyData.keyHash P (Str.mk #[103, 101, 116]), (.str (Str.mk #[103, 101, 116]) 693), (.ref 223)⟩, ⟨PyData.keyHash P (Str.mk #[107, 101, 121, 115]), (.str (Str.mk #[107, 101, 121, 115]) 699), (.ref 228)⟩, ⟨PyData.keyHash P (Str.mk #[118, 97, 108, 117, 101, 115]), (.str (Str.mk #[118, 97, 108, 117, 101, 115]) 705), (.ref 233)⟩, ⟨PyData.keyHash P (Str.mk #[105, 116, 101, 109, 115]), (.str (Str.mk #[105, 116, 101, 109, 115]) 712), (.ref 240)⟩, ⟨PyData.keyHash P (Str.mk #[95, 95, 114, 101, 112, 114, 95, 95]), (.str (Str.mk #[95, 95, 114, 101, 112, 114, 95, 95]) 719), (.ref 247)⟩, ⟨PyData.keyHash P (Str.mk #[95, 95, 115, 116, 114, 95, 95]), (.str (Str.mk #[95, 95, 115, 116, 114, 95, 95]) 725), (.ref 252)⟩, ⟨PyData.keyHash P (Str.mk #[95, 95, 98, 121, 116, 101, 115, 95, 95]), (.str (Str.mk #[95, 95, 98, 121, 116, 101, 115, 95, 95]) 732), (.ref 259)⟩, ⟨PyData.keyHash P (Str.mk #[115, 101, 116, 100, 101, 102, 97, 117, 108, 116]), (.str (Str.mk #[115, 101, 116, 100, 101, 102, 97, 117, 108, 116]) 741), (.ref 266)⟩, ⟨PyData.keyHash P (Str.mk #[97, 100, 100, 95, 104, 101, 97, 100, 101, 114]), (.str (Str.mk #[97, 100, 100, 95, 104, 101, 97, 100, 101, 114]) 754), (.ref 273)⟩, ⟨PyData.keyHash P (Str.mk #[95, 95, 115, 116, 97, 116, 105, 99, 95, 97, 116, 116, 114, 105, 98, 117, 116, 101, 115, 95, 95]), (.str (Str.mk #[95, 95, 115, 116, 97, 116, 105, 99, 95, 97, 116, 116, 114, 105, 98, 117, 116, 101, 115, 95, 95]) 756), (.ref 274)⟩, ⟨PyData.keyHash P (Str.mk #[95, 95, 100, 105, 99, 116, 95, 95]), (.str (Str.mk #[95, 95, 100, 105, 99, 116, 95, 95]) 758), (.ref 277)⟩, ⟨PyData.keyHash P (Str.mk #[95, 95, 119, 101, 97, 107, 114, 101, 102, 95, 95]), (.str (Str.mk #[95, 95, 119, 101, 97, 107, 114, 101, 102, 95, 95]) 760), (.ref 278)⟩, ⟨PyData.keyHash P (Str.mk #[95, 95, 100, 111, 99, 95, 95]), (.str (Str.mk #[95, 95, 100, 111, 99, 95, 95]) 761), .none⟩] 4), #[]⟩
noncomputable def o276_p4 (P : Params) : Obj := ⟨(.type PySem.W.SL.s17162191345867700912x4), none, (.cls ⟨(Str.mk #[72, 101, 97, 100, 101, 114, 115]), [(.type PySem.W.SL.s2742458400755230247x6)], [(.ref 276), (.type PySem.W.SL.s2742458400755230247x6)], 275, (Str.mk #[72, 101, 97, 100, 101, 114, 115]), true, [], [], false, none, false⟩), #[none, none, (some (.str (Str.mk #[72, 101, 97, 100, 101, 114, 115]) 605)), (some (.str (Str.mk #[72, 101, 97, 100, 101, 114, 115]) 613)), (some (.builtin PySem.W.SL.s11443829558043349243x14)), (some (.bool true))]⟩
noncomputable def o277_p4 (P : Params) : Obj := ⟨(.type PySem.W.SL.s14755015743595814543x17), none, (.fields #[(.str (Str.mk #[95, 95, 100, 105, 99, 116, 95, 95]) 757), (.ref 276), (.builtin PySem.W.SL.s6511155373996960695x17), (.builtin PySem.W.SL.s12411053484034534018x21)]), #[]⟩
noncomputable def o278_p4 (P : Params) : Obj := ⟨(.type PySem.W.SL.s14755015743595814543x17), none, (.fields #[(.str (Str.mk #[95, 95, 119, 101, 97, 107, 114, 101, 102, 95, 95]) 759), (.ref 276), (.builtin PySem.W.SL.s10220274742760427390x26), .none]), #[]⟩
noncomputable def o279_p4 (P : Params) : Obj := ⟨(.type PySem.W.SL.s4290257624100764138x5), none, (.fields #[(.ref 276), (.ref 276), (.ref 276)]), #[]⟩
noncomputable def o280_p4 (P : Params) : Obj := ⟨(.type PySem.W.SL.s11030030927630378310x26), none, (.fields #[(.builtin PySem.W.SL.s4860613602091757760x24), (.ref 276)]), #[]⟩
noncomputable def tr_p4_c52 (P : Params) : BT := (.node (o31_a P) (.node (o63_p2 P) (.node (o127_p2 P) (.node (o255_p4 P) .nil .nil) .nil) (.node (o191_p4 P) .nil .nil)) (.node (o95_p2 P) (.node (o159_p4 P) .nil .nil) (.node (o223_p4 P) .nil .nil)))
noncomputable def tr_p4_c53 (P : Params) : BT := (.node (o47_p1 P) (.node (o79_p2 P) (.node (o143_p3 P) (.node (o271_p4 P) .nil .nil) .nil) (.node (o207_p4 P) .nil .nil)) (.node (o111_p2 P) (.node (o175_p4 P) .nil .nil) (.node (o239_p4 P) .nil .nil)))
noncomputable def tr_p4_c54 (P : Params) : BT := (.node (o39_p0 P) (.node (o71_p2 P) (.node (o135_p3 P) (.node (o263_p4 P) .nil .nil) .nil) (.node (o199_p4 P) .nil .nil)) (.node (o103_p2 P) (.node (o167_p4 P) .nil .nil) (.node (o231_p4 P) .nil .nil)))
noncomputable def tr_p4_c55 (P : Params) : BT := (.node (o55_p1 P) (.node (o87_p2 P) (.node (o151_p3 P) (.node (o279_p4 P) .nil .nil) .nil) (.node (o215_p4 P) .nil .nil)) (.node (o119_p2 P) (.node (o183_p4 P) .nil .nil) (.node (o247_p4 P) .nil .nil)))
noncomputable def tr_p4_c56 (P : Params) : BT := (.node (o35_p0 P) (.node (o67_p2 P) (.node (o131_p3 P) (.node (o259_p4 P) .nil .nil) .nil) (.node (o195_p4 P) .nil .nil)) (.node (o99_p2 P) (.node (o163_p4 P) .nil .nil) (.node (o227_p4 P) .nil .nil)))
noncomputable def tr_p4_c57 (P : Params) : BT := (.node (o51_p1 P) (.node (o83_p2 P) (.node (o147_p3 P) (.node (o275_p4 P) .nil .nil) .nil) (.node (o211_p4 P) .nil .nil)) (.node (o115_p2 P) (.node (o179_p4 P) .nil .nil) (.node (o243_p4 P) .nil .nil)))
noncomputable def tr_p4_c58 (P : Params) : BT := (.node (o43_p0 P) (.node (o75_p2 P) (.node (o139_p3 P) (.node (o267_p4 P) .nil .nil) .nil) (.node (o203_p4 P) .nil .nil)) (.node (o107_p2 P) (.node (o171_p4 P) .nil .nil) (.node (o235_p4 P) .nil .nil)))
noncomputable def tr_p4_c59 (P : Params) : BT := (.node (o59_p2 P) (.node (o91_p2 P) (.node (o155_p4 P) .nil .nil) (.node (o219_p4 P) .nil .nil)) (.node (o123_p2 P) (.node (o187_p4 P) .nil .nil) (.node (o251_p4 P) .nil .nil)))
noncomputable def tr_p4_c60 (P : Params) : BT := (.node (o3_p4 P) (.node (o7_e P) (.node (o15_e P) (tr_p4_c52 P) (tr_p4_c53 P)) (.node (o23_e P) (tr_p4_c54 P) (tr_p4_c55 P))) (.node (o11_s P) (.node (o19_e P) (tr_p4_c56 P) (tr_p4_c57 P)) (.node (o27_e P) (tr_p4_c58 P) (tr_p4_c59 P))))
noncomputable def tr_p4_c61 (P : Params) : BT := (.node (o33_p0 P) (.node (o65_p2 P) (.node (o129_p2 P) (.node (o257_p4 P) .nil .nil) .nil) (.node (o193_p4 P) .nil .nil)) (.node (o97_p2 P) (.node (o161_p4 P) .nil .nil) (.node (o225_p4 P) .nil .nil)))
noncomputable def tr_p4_c62 (P : Params) : BT := (.node (o49_p1 P) (.node (o81_p2 P) (.node (o145_p3 P) (.node (o273_p4 P) .nil .nil) .nil) (.node (o209_p4 P) .nil .nil)) (.node (o113_p2 P) (.node (o177_p4 P) .nil .nil) (.node (o241_p4 P) .nil .nil)))
noncomputable def tr_p4_c63 (P : Params) : BT := (.node (o41_p0 P) (.node (o73_p2 P) (.node (o137_p3 P) (.node (o265_p4 P) .nil .nil) .nil) (.node (o201_p4 P) .nil .nil)) (.node (o105_p2 P) (.node (o169_p4 P) .nil .nil) (.node (o233_p4 P) .nil .nil)))
noncomputable def tr_p4_c64 (P : Params) : BT := (.node (o57_p1 P) (.node (o89_p2 P) (.node (o153_p3 P) .nil .nil) (.node (o217_p4 P) .nil .nil)) (.node (o121_p2 P) (.node (o185_p4 P) .nil .nil) (.node (o249_p4 P) .nil .nil)))
noncomputable def tr_p4_c65 (P : Params) : BT := (.node (o37_p0 P) (.node (o69_p2 P) (.node (o133_p3 P) (.node (o261_p4 P) .nil .nil) .nil) (.node (o197_p4 P) .nil .nil)) (.node (o101_p2 P) (.node (o165_p4 P) .nil .nil) (.node (o229_p4 P) .nil .nil)))
noncomputable def tr_p4_c66 (P : Params) : BT := (.node (o53_p1 P) (.node (o85_p2 P) (.node (o149_p3 P) (.node (o277_p4 P) .nil .nil) .nil) (.node (o213_p4 P) .nil .nil)) (.node (o117_p2 P) (.node (o181_p4 P) .nil .nil) (.node (o245_p4 P) .nil .nil)))
noncomputable def tr_p4_c67 (P : Params) : BT := (.node (o45_p0 P) (.node (o77_p2 P) (.node (o141_p3 P) (.node (o269_p4 P) .nil .nil) .nil) (.node (o205_p4 P) .nil .nil)) (.node (o109_p2 P) (.node (o173_p4 P) .nil .nil) (.node (o237_p4 P) .nil .nil)))
noncomputable def tr_p4_c68 (P : Params) : BT := (.node (o61_p2 P) (.node (o93_p2 P) (.node (o157_p4 P) .nil .nil) (.node (o221_p4 P) .nil .nil)) (.node (o125_p2 P) (.node (o189_p4 P) .nil .nil) (.node (o253_p4 P) .nil .nil)))
noncomputable def tr_p4_c69 (P : Params) : BT := (.node (o5_e P) (.node (o9_e P) (.node (o17_e P) (tr_p4_c61 P) (tr_p4_c62 P)) (.node (o25_e P) (tr_p4_c63 P) (tr_p4_c64 P))) (.node (o13_e P) (.node (o21_e P) (tr_p4_c65 P) (tr_p4_c66 P)) (.node (o29_p4 P) (tr_p4_c67 P) (tr_p4_c68 P))))
noncomputable def tr_p4_c70 (P : Params) : BT := (.node (o32_p0 P) (.node (o64_p2 P) (.node (o128_p2 P) (.node (o256_p4 P) .nil .nil) .nil) (.node (o192_p4 P) .nil .nil)) (.node (o96_p2 P) (.node (o160_p4 P) .nil .nil) (.node (o224_p4 P) .nil .nil)))
noncomputable def tr_p4_c71 (P : Params) : BT := (.node (o48_p1 P) (.node (o80_p2 P) (.node (o144_p3 P) (.node (o272_p4 P) .nil .nil) .nil) (.node (o208_p4 P) .nil .nil)) (.node (o112_p2 P) (.node (o176_p4 P) .nil .nil) (.node (o240_p4 P) .nil .nil)))
noncomputable def tr_p4_c72 (P : Params) : BT := (.node (o40_p0 P) (.node (o72_p2 P) (.node (o136_p3 P) (.node (o264_p4 P) .nil .nil) .nil) (.node (o200_p4 P) .nil .nil)) (.node (o104_p2 P) (.node (o168_p4 P) .nil .nil) (.node (o232_p4 P) .nil .nil)))
noncomputable def tr_p4_c73 (P : Params) : BT := (.node (o56_p1 P) (.node (o88_p2 P) (.node (o152_p3 P) (.node (o280_p4 P) .nil .nil) .nil) (.node (o216_p4 P) .nil .nil)) (.node (o120_p2 P) (.node (o184_p4 P) .nil .nil) (.node (o248_p4 P) .nil .nil)))
noncomputable def tr_p4_c74 (P : Params) : BT := (.node (o36_p0 P) (.node (o68_p2 P) (.node (o132_p3 P) (.node (o260_p4 P) .nil .nil) .nil) (.node (o196_p4 P) .nil .nil)) (.node (o100_p2 P) (.node (o164_p4 P) .nil .nil) (.node (o228_p4 P) .nil .nil)))
noncomputable def tr_p4_c75 (P : Params) : BT := (.node (o52_p1 P) (.node (o84_p2 P) (.node (o148_p3 P) (.node (o276_p4 P) .nil .nil) .nil) (.node (o212_p4 P) .nil .nil)) (.node (o116_p2 P) (.node (o180_p4 P) .nil .nil) (.node (o244_p4 P) .nil .nil)))
noncomputable def tr_p4_c76 (P : Params) : BT := (.node (o44_p0 P) (.node (o76_p2 P) (.node (o140_p3 P) (.node (o268_p4 P) .nil .nil) .nil) (.node (o204_p4 P) .nil .nil)) (.node (o108_p2 P) (.node (o172_p4 P) .nil .nil) (.node (o236_p4 P) .nil .nil)))
noncomputable def tr_p4_c77 (P : Params) : BT := (.node (o60_p2 P) (.node (o92_p2 P) (.node (o156_p4 P) .nil .nil) (.node (o220_p4 P) .nil .nil)) (.node (o124_p2 P) (.node (o188_p4 P) .nil .nil) (.node (o252_p4 P) .nil .nil)))
noncomputable def tr_p4_c78 (P : Params) : BT := (.node (o4_e P) (.node (o8_e P) (.node (o16_e P) (tr_p4_c70 P) (tr_p4_c71 P)) (.node (o24_e P) (tr_p4_c72 P) (tr_p4_c73 P))) (.node (o12_e P) (.node (o20_e P) (tr_p4_c74 P) (tr_p4_c75 P)) (.node (o28_a P) (tr_p4_c76 P) (tr_p4_c77 P))))
noncomputable def tr_p4_c79 (P : Params) : BT := (.node (o34_p0 P) (.node (o66_p2 P) (.node (o130_p2 P) (.node (o258_p4 P) .nil .nil) .nil) (.node (o194_p4 P) .nil .nil)) (.node (o98_p2 P) (.node (o162_p4 P) .nil .nil) (.node (o226_p4 P) .nil .nil)))
noncomputable def tr_p4_c80 (P : Params) : BT := (.node (o50_p1 P) (.node (o82_p2 P) (.node (o146_p3 P) (.node (o274_p4 P) .nil .nil) .nil) (.node (o210_p4 P) .nil .nil)) (.node (o114_p2 P) (.node (o178_p4 P) .nil .nil) (.node (o242_p4 P) .nil .nil)))
noncomputable def tr_p4_c81 (P : Params) : BT := (.node (o42_p0 P) (.node (o74_p2 P) (.node (o138_p3 P) (.node (o266_p4 P) .nil .nil) .nil) (.node (o202_p4 P) .nil .nil)) (.node (o106_p2 P) (.node (o170_p4 P) .nil .nil) (.node (o234_p4 P) .nil .nil)))
noncomputable def tr_p4_c82 (P : Params) : BT := (.node (o58_p2 P) (.node (o90_p2 P) (.node (o154_p4 P) .nil .nil) (.node (o218_p4 P) .nil .nil)) (.node (o122_p2 P) (.node (o186_p4 P) .nil .nil) (.node (o250_p4 P) .nil .nil)))
noncomputable def tr_p4_c83 (P : Params) : BT := (.node (o38_p0 P) (.node (o70_p2 P) (.node (o134_p3 P) (.node (o262_p4 P) .nil .nil) .nil) (.node (o198_p4 P) .nil .nil)) (.node (o102_p2 P) (.node (o166_p4 P) .nil .nil) (.node (o230_p4 P) .nil .nil)))
noncomputable def tr_p4_c84 (P : Params) : BT := (.node (o54_p1 P) (.node (o86_p2 P) (.node (o150_p3 P) (.node (o278_p4 P) .nil .nil) .nil) (.node (o214_p4 P) .nil .nil)) (.node (o118_p2 P) (.node (o182_p4 P) .nil .nil) (.node (o246_p4 P) .nil .nil)))
noncomputable def tr_p4_c85 (P : Params) : BT := (.node (o46_p0 P) (.node (o78_p2 P) (.node (o142_p3 P) (.node (o270_p4 P) .nil .nil) .nil) (.node (o206_p4 P) .nil .nil)) (.node (o110_p2 P) (.node (o174_p4 P) .nil .nil) (.node (o238_p4 P) .nil .nil)))
noncomputable def tr_p4_c86 (P : Params) : BT := (.node (o62_p2 P) (.node (o94_p2 P) (.node (o158_p4 P) .nil .nil) (.node (o222_p4 P) .nil .nil)) (.node (o126_p2 P) (.node (o190_p4 P) .nil .nil) (.node (o254_p4 P) .nil .nil)))
noncomputable def tr_p4_c87 (P : Params) : BT := (.node (o6_e P) (.node (o10_e P) (.node (o18_e P) (tr_p4_c79 P) (tr_p4_c80 P)) (.node (o26_e P) (tr_p4_c81 P) (tr_p4_c82 P))) (.node (o14_e P) (.node (o22_e P) (tr_p4_c83 P) (tr_p4_c84 P)) (.node (o30_a P) (tr_p4_c85 P) (tr_p4_c86 P))))
noncomputable def tr_p4 (P : Params) : BT := (.node (o0_e P) (.node (o1_e P) (tr_p4_c60 P) (tr_p4_c69 P)) (.node (o2_e P) (tr_p4_c78 P) (tr_p4_c87 P)))
noncomputable def L_p4 (w : World) : OsState → Option (Flow × SharedT × Code × Pos) := fun os => segRunT treeTable pw w 28 (some (.ref 6)) 1 731 ⟨tr_p3 w.params, 154, {}, #[], {}, 605, os⟩ (piecesOf sts4 env0 cd0 ⟨75, 0, 83, 20⟩ fr0)
noncomputable def R_p4 (w : World) : OsState → Option (Flow × SharedT × Code × Pos) := fun os => some (.next, ⟨tr_p4 w.params, 281, {}, #[], {}, 764, os⟩, cd0, ⟨84, 0, 164, 93⟩)
theorem L_p4_self : L_p4 = L_p4 := rfl
theorem R_p4_self : R_p4 = R_p4 := rfl
name_quick L_p4Q for L_p4 by L_p4_self
name_quick R_p4Q for R_p4 by R_p4_self
theorem E_p4 (w : World) : L_p4 w = R_p4 w := by
  rw [PySem.W.Fast.L_p4Q_eq, PySem.W.Fast.R_p4Q_eq]
  kernel_rfl
noncomputable def sts5 : List Stmt := [(pw.main.body[16]?).getD default, (pw.main.body[17]?).getD default, (pw.main.body[18]?).getD default, (pw.main.body[19]?).getD default, (pw.main.body[20]?).getD default, (pw.main.body[21]?).getD default, (pw.main.body[22]?).getD default, (pw.main.body[23]?).getD default, (pw.main.body[24]?).getD default, (pw.main.body[25]?).getD default]
noncomputable def o3_p5 (P : Params) : Obj := ⟨(.type PySem.W.SL.s14018661285674007319x4), none, (.dict #[⟨PyData.keyHash P (Str.mk #[95, 95, 110, 97, 109, 101, 95, 95]), (.str (Str.mk #[95, 95, 110, 97, 109, 101, 95, 95]) 165), (.str (Str.mk #[108, 97, 119, 95, 115, 110, 48, 48, 55, 48, 95, 48, 49]) 764)⟩, ⟨PyData.keyHash P (Str.mk #[95, 95, 100, 111, 99, 95, 95]), (.str (Str.mk #[95, 95, 100, 111, 99, 95, 95]) 166), .none⟩, ⟨PyData.keyHash P (Str.mk #[95, 95, 112, 97, 99, 107, 97, 103, 101, 95, 95]), (.str (Str.mk #[95, 95, 112, 97, 99, 107, 97, 103, 101, 95, 95]) 167), .none⟩, ⟨PyData.keyHash P (Str.mk #[95, 95, 108, 111, 97, 100, 101, 114, 95, 95]), (.str (Str.mk #[95, 95, 108, 111, 97, 100, 101, 114, 95, 95]) 168), (.builtin PySem.W.SL.s7097527257260152453x26)⟩, ⟨PyData.keyHash P (Str.mk #[95, 95, 115, 112, 101, 99, 95, 95]), (.str (Str.mk #[95, 95, 115, 112, 101, 99, 95, 95]) 169), .none⟩, ⟨PyData.keyHash P (Str.mk #[95, 95, 97, 110, 110, 111, 116, 97, 116, 105, 111, 110, 115, 95, 95]), (.str (Str.mk #[95, 95, 97, 110, 110, 111, 116, 97, 116, 105, 111, 110, 115, 95, 95]) 170), (.ref 6)⟩, ⟨PyData.keyHash P (Str.mk #[95, 95, 98, 117, 105, 108, 116, 105, 110, 115, 95, 95]), (.str (Str.mk #[95, 95, 98, 117, 105, 108, 116, 105, 110, 115, 95, 95]) 171), (.ref 4)⟩, ⟨PyData.keyHash P (Str.mk #[95, 95, 102, 105, 108, 101, 95, 95]), (.str (Str.mk #[95, 95, 102, 105, 108, 101, 95, 95]) 173), (.str (Str.mk #[47, 99, 108, 97, 105, 109, 47, 99, 117, 116, 46, 112, 121]) 172)⟩, ⟨PyData.keyHash P (Str.mk #[95, 95, 99, 97, 99, 104, 101, 100, 95, 95]), (.str (Str.mk #[95, 95, 99, 97, 99, 104, 101, 100, 95, 95]) 174), .none⟩, ⟨PyData.keyHash P (Str.mk #[95, 115, 114, 101]), (.str (Str.mk #[95, 115, 114, 101]) 275), (.ref 12)⟩, ⟨PyData.keyHash P (Str.mk #[95, 119, 97, 108, 108]), (.str (Str.mk #[95, 119, 97, 108, 108]) 288), (.ref 38)⟩, ⟨PyData.keyHash P (Str.mk #[67, 79, 77, 80, 73, 76, 69, 82, 95, 70, 76, 65, 71, 95, 78, 65, 77, 69, 83]), (.str (Str.mk #[67, 79, 77, 80, 73, 76, 69, 82, 95, 70, 76, 65, 71, 95, 78, 65, 77, 69, 83]) 321), (.ref 39)⟩, ⟨PyData.keyHash P (Str.mk #[112, 114, 101, 116, 116, 121, 95, 102, 108, 97, 103, 115]), (.str (Str.mk #[112, 114, 101, 116, 116, 121, 95, 102, 108, 97, 103, 115]) 331), (.ref 46)⟩, ⟨PyData.keyHash P (Str.mk #[98, 49, 95, 115, 101, 116]), (.str (Str.mk #[98, 49, 95, 115, 101, 116]) 393), (.ref 54)⟩, ⟨PyData.keyHash P (Str.mk #[105, 110, 95, 116, 97, 98, 108, 101, 95, 98, 49]), (.str (Str.mk #[105, 110, 95, 116, 97, 98, 108, 101, 95, 98, 49]) 400), (.ref 64)⟩, ⟨PyData.keyHash P (Str.mk #[87, 104, 105, 116, 101, 115, 112, 97, 99, 101]), (.str (Str.mk #[87, 104, 105, 116, 101, 115, 112, 97, 99, 101]) 498), (.ref 126)⟩, ⟨PyData.keyHash P (Str.mk #[116, 115, 112, 101, 99, 105, 97, 108, 115]), (.str (Str.mk #[116, 115, 112, 101, 99, 105, 97, 108, 115]) 534), (.ref 135)⟩, ⟨PyData.keyHash P (Str.mk #[95, 110, 97, 109, 101, 95, 100, 105, 115, 97, 108, 108, 111, 119, 101, 100, 95, 114, 101]), (.str (Str.mk #[95, 110, 97, 109, 101, 95, 100, 105, 115, 97, 108, 108, 111, 119, 101, 100, 95, 114, 101]) 560), (.ref 140)⟩, ⟨PyData.keyHash P (Str.mk #[95, 118, 97, 108, 117, 101, 95, 100, 105, 115, 97, 108, 108, 111, 119, 101, 100, 95, 114, 101]), (.str (Str.mk #[95, 118, 97, 108, 117, 101, 95, 100, 105, 115, 97, 108, 108, 111, 119, 101, 100, 95, 114, 101]) 594), (.ref 145)⟩, ⟨PyData.keyHash P (Str.mk #[95, 102, 111, 114, 109, 97, 116, 112, 97, 114, 97, 109]), (.str (Str.mk #[95, 102, 111, 114, 109, 97, 116, 112, 97, 114, 97, 109]) 604), (.ref 153)⟩, ⟨PyData.keyHash P (Str.mk #[72, 101, 97, 100, 101, 114, 115]), (.str (Str.mk #[72, 101, 97, 100, 101, 114, 115]) 763), (.ref 276)⟩, ⟨PyData.keyHash P (Str.mk #[95, 108, 97, 119, 95, 117, 110, 115, 101, 101, 110]), (.str (Str.mk #[95, 108, 97, 119, 95, 117, 110, 115, 101, 101, 110]) 773), (.ref 287)⟩, ⟨PyData.keyHash P (Str.mk #[95, 108, 97, 119, 95, 98, 101, 115, 105, 100, 101]), (.str (Str.mk #[95, 108, 97, 119, 95, 98, 101, 115, 105, 100, 101]) 780), (.ref 294)⟩, ⟨PyData.keyHash P (Str.mk #[95, 108, 97, 119, 95, 99, 108, 101, 97, 110]), (.str (Str.mk #[95, 108, 97, 119, 95, 99, 108, 101, 97, 110]) 790), (.ref 301)⟩, ⟨PyData.keyHash P (Str.mk #[95, 108, 97, 119, 95, 100, 114, 97, 119]), (.str (Str.mk #[95, 108, 97, 119, 95, 100, 114, 97, 119]) 796), (.ref 306)⟩, ⟨PyData.keyHash P (Str.mk #[95, 108, 97, 119, 95, 110, 97, 109, 101]), (.str (Str.mk #[95, 108, 97, 119, 95, 110, 97, 109, 101]) 804), (.ref 313)⟩, ⟨PyData.keyHash P (Str.mk #[95, 108, 97, 119, 95, 102, 108, 97, 103]), (.str (Str.mk #[95, 108, 97, 119, 95, 102, 108, 97, 103]) 811), (.ref 320)⟩, ⟨PyData.keyHash P (Str.mk #[95, 108, 97, 119, 95, 115, 116, 101, 112, 115]), (.str (Str.mk #[95, 108, 97, 119, 95, 115, 116, 101, 112, 115]) 822), (.ref 327)⟩, ⟨PyData.keyHash P (Str.mk #[95, 108, 97, 119, 95, 102, 105, 108, 101]), (.str (Str.mk #[95, 108, 97, 119, 95, 102, 105, 108, 101]) 836), (.ref 334)⟩, ⟨PyData.keyHash P (Str.mk #[108, 97, 119]), (.str (Str.mk #[108, 97, 119]) 842), (.ref 339)⟩] 30), #[]⟩
noncomputable def o29_p5 (P : Params) : Obj := ⟨.none, none, (.fields #[(.int 2 0), (.int 0 0), (.ref 37), (.int 7 0), (.int 0 0), (.ref 45), (.int 21 0), (.int 0 0), (.ref 63), (.int 24 0), (.int 0 0), (.ref 70), (.int 75 0), (.int 0 0), (.ref 152), (.int 84 0), (.int 0 0), (.ref 159), (.int 166 0), (.int 0 0), (.ref 286), (.int 171 0), (.int 0 0), (.ref 293), (.int 173 0), (.int 0 0), (.ref 300), (.int 179 0), (.int 0 0), (.ref 305), (.int 182 0), (.int 0 0), (.ref 312), (.int 185 0), (.int 0 0), (.ref 319), (.int 187 0), (.int 0 0), (.ref 326), (.int 194 0), (.int 0 0), (.ref 333), (.int 205 0), (.int 0 0), (.ref 338)]), #[]⟩
noncomputable def o281_p5 (P : Params) : Obj := ⟨(.type PySem.W.SL.s2766695959194262286x5), none, (.seq #[] 0), #[]⟩
noncomputable def o282_p5 (P : Params) : Obj := ⟨.none, none, (.fields #[]), #[]⟩
noncomputable def o283_p5 (P : Params) : Obj := ⟨(.type PySem.W.SL.s2766695959194262286x5), none, (.seq #[(.str (Str.mk #[110, 117, 109, 98, 101, 114]) 769), (.str (Str.mk #[107]) 770)] 0), #[]⟩
noncomputable def o284_p5 (P : Params) : Obj := ⟨(.type PySem.W.SL.s2766695959194262286x5), none, (.seq #[] 0), #[]⟩
noncomputable def o285_p5 (P : Params) : Obj := ⟨.none, none, (.func ⟨(Str.mk #[95, 108, 97, 119, 95, 117, 110, 115, 101, 101, 110]), (Str.mk #[95, 108, 97, 119, 95, 117, 110, 115, 101, 101, 110]), (fdOf (stm 17)).1, (.stmts (fdOf (stm 17)).2.1), (fdOf (stm 17)).2.2, 0, [], .none, .none, .none, .none, none, .none, .none, 0⟩), #[]⟩
noncomputable def o286_p5 (P : Params) : Obj := ⟨(.type PySem.W.SL.s5856160107412720595x4), none, (.fields #[(.str (Str.mk #[95, 108, 97, 119, 95, 117, 110, 115, 101, 101, 110]) 766), (.str (Str.mk #[95, 108, 97, 119, 95, 117, 110, 115, 101, 101, 110]) 767), (.str (Str.mk #[47, 99, 108, 97, 105, 109, 47, 99, 117, 116, 46, 112, 121]) 768), (.int 166 0), (.int 1 0), (.int 0 0), (.int 0 0), (.int 3 0), (.ref 281), (.bool true), (.int 276 0), (.ref 282), .none, (.ref 283), (.ref 284), (.ref 285), (.int 771 0), (.int 166 0), (.str (Str.mk #[47, 99, 108, 97, 105, 109, 47, 99, 117, 116, 46, 112, 121]) 772)]), #[]⟩
noncomputable def o287_p5 (P : Params) : Obj := ⟨(.type PySem.W.SL.s7174869446012820540x8), none, (.func ⟨(Str.mk #[95, 108, 97, 119, 95, 117, 110, 115, 101, 101, 110]), (Str.mk #[95, 108, 97, 119, 95, 117, 110, 115, 101, 101, 110]), (fdOf (stm 17)).1, (.stmts (fdOf (stm 17)).2.1), (fdOf (stm 17)).2.2, 3, [], .none, .none, .none, (.str (Str.mk #[108, 97, 119, 95, 115, 110, 48, 48, 55, 48, 95, 48, 49]) 764), none, (.ref 286), .none, 0⟩), #[]⟩
noncomputable def o288_p5 (P : Params) : Obj := ⟨(.type PySem.W.SL.s2766695959194262286x5), none, (.seq #[] 0), #[]⟩
noncomputable def o289_p5 (P : Params) : Obj := ⟨.none, none, (.fields #[]), #[]⟩
noncomputable def o290_p5 (P : Params) : Obj := ⟨(.type PySem.W.SL.s2766695959194262286x5), none, (.seq #[(.str (Str.mk #[110, 117, 109, 98, 101, 114]) 777)] 0), #[]⟩
noncomputable def o291_p5 (P : Params) : Obj := ⟨(.type PySem.W.SL.s2766695959194262286x5), none, (.seq #[] 0), #[]⟩
noncomputable def o292_p5 (P : Params) : Obj := ⟨.none, none, (.func ⟨(Str.mk #[95, 108, 97, 119, 95, 98, 101, 115, 105, 100, 101]), (Str.mk #[95, 108, 97, 119, 95, 98, 101, 115, 105, 100, 101]), (fdOf (stm 18)).1, (.stmts (fdOf (stm 18)).2.1), (fdOf (stm 18)).2.2, 0, [], .none, .none, .none, .none, none, .none, .none, 0⟩), #[]⟩
noncomputable def o293_p5 (P : Params) : Obj := ⟨(.type PySem.W.SL.s5856160107412720595x4), none, (.fields #[(.str (Str.mk #[95, 108, 97, 119, 95, 98, 101, 115, 105, 100, 101]) 774), (.str (Str.mk #[95, 108, 97, 119, 95, 98, 101, 115, 105, 100, 101]) 775), (.str (Str.mk #[47, 99, 108, 97, 105, 109, 47, 99, 117, 116, 46, 112, 121]) 776), (.int 171 0), (.int 1 0), (.int 0 0), (.int 0 0), (.int 3 0), (.ref 288), (.bool true), (.int 276 0), (.ref 289), .none, (.ref 290), (.ref 291), (.ref 292), (.int 778 0), (.int 171 0), (.str (Str.mk #[47, 99, 108, 97, 105, 109, 47, 99, 117, 116, 46, 112, 121]) 779)]), #[]⟩
noncomputable def o294_p5 (P : Params) : Obj := ⟨(.type PySem.W.SL.s7174869446012820540x8), none, (.func ⟨(Str.mk #[95, 108, 97, 119, 95, 98, 101, 115, 105, 100, 101]), (Str.mk #[95, 108, 97, 119, 95, 98, 101, 115, 105, 100, 101]), (fdOf (stm 18)).1, (.stmts (fdOf (stm 18)).2.1), (fdOf (stm 18)).2.2, 3, [], .none, .none, .none, (.str (Str.mk #[108, 97, 119, 95, 115, 110, 48, 48, 55, 48, 95, 48, 49]) 764), none, (.ref 293), .none, 0⟩), #[]⟩
noncomputable def o295_p5 (P : Params) : Obj := ⟨(.type PySem.W.SL.s2766695959194262286x5), none, (.seq #[] 0), #[]⟩
noncomputable def o296_p5 (P : Params) : Obj := ⟨.none, none, (.fields #[]), #[]⟩
noncomputable def o297_p5 (P : Params) : Obj := ⟨(.type PySem.W.SL.s2766695959194262286x5), none, (.seq #[(.str (Str.mk #[116, 101, 120, 116]) 784), (.str (Str.mk #[108, 101, 102, 116]) 785), (.str (Str.mk #[115, 105, 103, 110]) 786), (.str (Str.mk #[116, 111, 108, 100]) 787)] 0), #[]⟩
noncomputable def o298_p5 (P : Params) : Obj := ⟨(.type PySem.W.SL.s2766695959194262286x5), none, (.seq #[] 0), #[]⟩
noncomputable def o299_p5 (P : Params) : Obj := ⟨.none, none, (.func ⟨(Str.mk #[95, 108, 97, 119, 95, 99, 108, 101, 97, 110]), (Str.mk #[95, 108, 97, 119, 95, 99, 108, 101, 97, 110]), (fdOf (stm 19)).1, (.stmts (fdOf (stm 19)).2.1), (fdOf (stm 19)).2.2, 0, [], .none, .none, .none, .none, none, .none, .none, 0⟩), #[]⟩
noncomputable def o300_p5 (P : Params) : Obj := ⟨(.type PySem.W.SL.s5856160107412720595x4), none, (.fields #[(.str (Str.mk #[95, 108, 97, 119, 95, 99, 108, 101, 97, 110]) 781), (.str (Str.mk #[95, 108, 97, 119, 95, 99, 108, 101, 97, 110]) 782), (.str (Str.mk #[47, 99, 108, 97, 105, 109, 47, 99, 117, 116, 46, 112, 121]) 783), (.int 173 0), (.int 1 0), (.int 0 0), (.int 0 0), (.int 3 0), (.ref 295), (.bool true), (.int 276 0), (.ref 296), .none, (.ref 297), (.ref 298), (.ref 299), (.int 788 0), (.int 173 0), (.str (Str.mk #[47, 99, 108, 97, 105, 109, 47, 99, 117, 116, 46, 112, 121]) 789)]), #[]⟩
noncomputable def o301_p5 (P : Params) : Obj := ⟨(.type PySem.W.SL.s7174869446012820540x8), none, (.func ⟨(Str.mk #[95, 108, 97, 119, 95, 99, 108, 101, 97, 110]), (Str.mk #[95, 108, 97, 119, 95, 99, 108, 101, 97, 110]), (fdOf (stm 19)).1, (.stmts (fdOf (stm 19)).2.1), (fdOf (stm 19)).2.2, 3, [], .none, .none, .none, (.str (Str.mk #[108, 97, 119, 95, 115, 110, 48, 48, 55, 48, 95, 48, 49]) 764), none, (.ref 300), .none, 0⟩), #[]⟩
noncomputable def o302_p5 (P : Params) : Obj := ⟨(.type PySem.W.SL.s2766695959194262286x5), none, (.seq #[] 0), #[]⟩
noncomputable def o303_p5 (P : Params) : Obj := ⟨.none, none, (.fields #[]), #[]⟩
noncomputable def o304_p5 (P : Params) : Obj := ⟨.none, none, (.func ⟨(Str.mk #[95, 108, 97, 119, 95, 100, 114, 97, 119]), (Str.mk #[95, 108, 97, 119, 95, 100, 114, 97, 119]), (fdOf (stm 20)).1, (.stmts (fdOf (stm 20)).2.1), (fdOf (stm 20)).2.2, 0, [], .none, .none, .none, .none, none, .none, .none, 0⟩), #[]⟩
noncomputable def o305_p5 (P : Params) : Obj := ⟨(.type PySem.W.SL.s5856160107412720595x4), none, (.fields #[(.str (Str.mk #[95, 108, 97, 119, 95, 100, 114, 97, 119]) 791), (.str (Str.mk #[95, 108, 97, 119, 95, 100, 114, 97, 119]) 792), (.str (Str.mk #[47, 99, 108, 97, 105, 109, 47, 99, 117, 116, 46, 112, 121]) 793), (.int 179 0), (.int 1 0), (.int 0 0), (.int 0 0), (.int 3 0), (.ref 302), (.bool true), (.int 276 0), (.ref 303), .none, .none, .none, (.ref 304), (.int 794 0), (.int 179 0), (.str (Str.mk #[47, 99, 108, 97, 105, 109, 47, 99, 117, 116, 46, 112, 121]) 795)]), #[]⟩
noncomputable def o306_p5 (P : Params) : Obj := ⟨(.type PySem.W.SL.s7174869446012820540x8), none, (.func ⟨(Str.mk #[95, 108, 97, 119, 95, 100, 114, 97, 119]), (Str.mk #[95, 108, 97, 119, 95, 100, 114, 97, 119]), (fdOf (stm 20)).1, (.stmts (fdOf (stm 20)).2.1), (fdOf (stm 20)).2.2, 3, [], .none, .none, .none, (.str (Str.mk #[108, 97, 119, 95, 115, 110, 48, 48, 55, 48, 95, 48, 49]) 764), none, (.ref 305), .none, 0⟩), #[]⟩
noncomputable def o307_p5 (P : Params) : Obj := ⟨(.type PySem.W.SL.s2766695959194262286x5), none, (.seq #[] 0), #[]⟩
noncomputable def o308_p5 (P : Params) : Obj := ⟨.none, none, (.fields #[]), #[]⟩
noncomputable def o309_p5 (P : Params) : Obj := ⟨(.type PySem.W.SL.s2766695959194262286x5), none, (.seq #[(.str (Str.mk #[98, 105, 116]) 800), (.str (Str.mk #[119, 111, 114, 100, 115]) 801)] 0), #[]⟩
noncomputable def o310_p5 (P : Params) : Obj := ⟨(.type PySem.W.SL.s2766695959194262286x5), none, (.seq #[] 0), #[]⟩
noncomputable def o311_p5 (P : Params) : Obj := ⟨.none, none, (.func ⟨(Str.mk #[95, 108, 97, 119, 95, 110, 97, 109, 101]), (Str.mk #[95, 108, 97, 119, 95, 110, 97, 109, 101]), (fdOf (stm 21)).1, (.stmts (fdOf (stm 21)).2.1), (fdOf (stm 21)).2.2, 0, [], .none, .none, .none, .none, none, .none, .none, 0⟩), #[]⟩
noncomputable def o312_p5 (P : Params) : Obj := ⟨(.type PySem.W.SL.s5856160107412720595x4), none, (.fields #[(.str (Str.mk #[95, 108, 97, 119, 95, 110, 97, 109, 101]) 797), (.str (Str.mk #[95, 108, 97, 119, 95, 110, 97, 109, 101]) 798), (.str (Str.mk #[47, 99, 108, 97, 105, 109, 47, 99, 117, 116, 46, 112, 121]) 799), (.int 182 0), (.int 1 0), (.int 0 0), (.int 0 0), (.int 3 0), (.ref 307), (.bool true), (.int 276 0), (.ref 308), .none, (.ref 309), (.ref 310), (.ref 311), (.int 802 0), (.int 182 0), (.str (Str.mk #[47, 99, 108, 97, 105, 109, 47, 99, 117, 116, 46, 112, 121]) 803)]), #[]⟩
noncomputable def o313_p5 (P : Params) : Obj := ⟨(.type PySem.W.SL.s7174869446012820540x8), none, (.func ⟨(Str.mk #[95, 108, 97, 119, 95, 110, 97, 109, 101]), (Str.mk #[95, 108, 97, 119, 95, 110, 97, 109, 101]), (fdOf (stm 21)).1, (.stmts (fdOf (stm 21)).2.1), (fdOf (stm 21)).2.2, 3, [], .none, .none, .none, (.str (Str.mk #[108, 97, 119, 95, 115, 110, 48, 48, 55, 48, 95, 48, 49]) 764), none, (.ref 312), .none, 0⟩), #[]⟩
noncomputable def o314_p5 (P : Params) : Obj := ⟨(.type PySem.W.SL.s2766695959194262286x5), none, (.seq #[] 0), #[]⟩
noncomputable def o315_p5 (P : Params) : Obj := ⟨.none, none, (.fields #[]), #[]⟩
noncomputable def o316_p5 (P : Params) : Obj := ⟨(.type PySem.W.SL.s2766695959194262286x5), none, (.seq #[(.str (Str.mk #[98, 105, 116]) 808)] 0), #[]⟩
noncomputable def o317_p5 (P : Params) : Obj := ⟨(.type PySem.W.SL.s2766695959194262286x5), none, (.seq #[] 0), #[]⟩
noncomputable def o318_p5 (P : Params) : Obj := ⟨.none, none, (.func ⟨(Str.mk #[95, 108, 97, 119, 95, 102, 108, 97, 103]), (Str.mk #[95, 108, 97, 119, 95, 102, 108, 97, 103]), (fdOf (stm 22)).1, (.stmts (fdOf (stm 22)).2.1), (fdOf (stm 22)).2.2, 0, [], .none, .none, .none, .none, none, .none, .none, 0⟩), #[]⟩
noncomputable def o319_p5 (P : Params) : Obj := ⟨(.type PySem.W.SL.s5856160107412720595x4), none, (.fields #[(.str (Str.mk #[95, 108, 97, 119, 95, 102, 108, 97, 103]) 805), (.str (Str.mk #[95, 108, 97, 119, 95, 102, 108, 97, 103]) 806), (.str (Str.mk #[47, 99, 108, 97, 105, 109, 47, 99, 117, 116, 46, 112, 121]) 807), (.int 185 0), (.int 1 0), (.int 0 0), (.int 0 0), (.int 3 0), (.ref 314), (.bool true), (.int 276 0), (.ref 315), .none, (.ref 316), (.ref 317), (.ref 318), (.int 809 0), (.int 185 0), (.str (Str.mk #[47, 99, 108, 97, 105, 109, 47, 99, 117, 116, 46, 112, 121]) 810)]), #[]⟩
noncomputable def o320_p5 (P : Params) : Obj := ⟨(.type PySem.W.SL.s7174869446012820540x8), none, (.func ⟨(Str.mk #[95, 108, 97, 119, 95, 102, 108, 97, 103]), (Str.mk #[95, 108, 97, 119, 95, 102, 108, 97, 103]), (fdOf (stm 22)).1, (.stmts (fdOf (stm 22)).2.1), (fdOf (stm 22)).2.2, 3, [], .none, .none, .none, (.str (Str.mk #[108, 97, 119, 95, 115, 110, 48, 48, 55, 48, 95, 48, 49]) 764), none, (.ref 319), .none, 0⟩), #[]⟩
noncomputable def o321_p5 (P : Params) : Obj := ⟨(.type PySem.W.SL.s2766695959194262286x5), none, (.seq #[] 0), #[]⟩
noncomputable def o322_p5 (P : Params) : Obj := ⟨.none, none, (.fields #[]), #[]⟩
noncomputable def o323_p5 (P : Params) : Obj := ⟨(.type PySem.W.SL.s2766695959194262286x5), none, (.seq #[(.str (Str.mk #[104, 97, 118, 101]) 815), (.str (Str.mk #[112, 111, 111, 108]) 816), (.str (Str.mk #[115, 116, 101, 112, 115]) 817), (.str (Str.mk #[110, 117, 109, 98, 101, 114]) 818), (.str (Str.mk #[98, 105, 116]) 819)] 0), #[]⟩
noncomputable def o324_p5 (P : Params) : Obj := ⟨(.type PySem.W.SL.s2766695959194262286x5), none, (.seq #[] 0), #[]⟩
noncomputable def o325_p5 (P : Params) : Obj := ⟨.none, none, (.func ⟨(Str.mk #[95, 108, 97, 119, 95, 115, 116, 101, 112, 115]), (Str.mk #[95, 108, 97, 119, 95, 115, 116, 101, 112, 115]), (fdOf (stm 23)).1, (.stmts (fdOf (stm 23)).2.1), (fdOf (stm 23)).2.2, 0, [], .none, .none, .none, .none, none, .none, .none, 0⟩), #[]⟩
noncomputable def o326_p5 (P : Params) : Obj := ⟨(.type PySem.W.SL.s5856160107412720595x4), none, (.fields #[(.str (Str.mk #[95, 108, 97, 119, 95, 115, 116, 101, 112, 115]) 812), (.str (Str.mk #[95, 108, 97, 119, 95, 115, 116, 101, 112, 115]) 813), (.str (Str.mk #[47, 99, 108, 97, 105, 109, 47, 99, 117, 116, 46, 112, 121]) 814), (.int 187 0), (.int 1 0), (.int 0 0), (.int 0 0), (.int 3 0), (.ref 321), (.bool true), (.int 276 0), (.ref 322), .none, (.ref 323), (.ref 324), (.ref 325), (.int 820 0), (.int 187 0), (.str (Str.mk #[47, 99, 108, 97, 105, 109, 47, 99, 117, 116, 46, 112, 121]) 821)]), #[]⟩
noncomputable def o327_p5 (P : Params) : Obj := ⟨(.type PySem.W.SL.s7174869446012820540x8), none, (.func ⟨(Str.mk #[95, 108, 97, 119, 95, 115, 116, 101, 112, 115]), (Str.mk #[95, 108, 97, 119, 95, 115, 116, 101, 112, 115]), (fdOf (stm 23)).1, (.stmts (fdOf (stm 23)).2.1), (fdOf (stm 23)).2.2, 3, [], .none, .none, .none, (.str (Str.mk #[108, 97, 119, 95, 115, 110, 48, 48, 55, 48, 95, 48, 49]) 764), none, (.ref 326), .none, 0⟩), #[]⟩
noncomputable def o328_p5 (P : Params) : Obj := ⟨(.type PySem.W.SL.s2766695959194262286x5), none, (.seq #[] 0), #[]⟩
noncomputable def o329_p5 (P : Params) : Obj := ⟨.none, none, (.fields #[]), #[]⟩
noncomputable def o330_p5 (P : Params) : Obj := ⟨(.type PySem.W.SL.s2766695959194262286x5), none, (.seq #[(.str (Str.mk #[115, 116, 101, 112, 115]) 826), (.str (Str.mk #[110, 117, 109, 98, 101, 114]) 827), (.str (Str.mk #[116, 97, 98, 108, 101]) 828), (.str (Str.mk #[98, 105, 116]) 829), (.str (Str.mk #[112, 105, 108, 101]) 830), (.str (Str.mk #[115, 101, 101, 100]) 831), (.str (Str.mk #[99, 117, 116]) 832), (.str (Str.mk #[119, 111, 114, 100]) 833)] 0), #[]⟩
noncomputable def o331_p5 (P : Params) : Obj := ⟨(.type PySem.W.SL.s2766695959194262286x5), none, (.seq #[] 0), #[]⟩
noncomputable def o332_p5 (P : Params) : Obj := ⟨.none, none, (.func ⟨(Str.mk #[95, 108, 97, 119, 95, 102, 105, 108, 101]), (Str.mk #[95, 108, 97, 119, 95, 102, 105, 108, 101]), (fdOf (stm 24)).1, (.stmts (fdOf (stm 24)).2.1), (fdOf (stm 24)).2.2, 0, [], .none, .none, .none, .none, none, .none, .none, 0⟩), #[]⟩
noncomputable def o333_p5 (P : Params) : Obj := ⟨(.type PySem.W.SL.s5856160107412720595x4), none, (.fields #[(.str (Str.mk #[95, 108, 97, 119, 95, 102, 105, 108, 101]) 823), (.str (Str.mk #[95, 108, 97, 119, 95, 102, 105, 108, 101]) 824), (.str (Str.mk #[47, 99, 108, 97, 105, 109, 47, 99, 117, 116, 46, 112, 121]) 825), (.int 194 0), (.int 2 0), (.int 0 0), (.int 0 0), (.int 3 0), (.ref 328), (.bool true), (.int 276 0), (.ref 329), .none, (.ref 330), (.ref 331), (.ref 332), (.int 834 0), (.int 194 0), (.str (Str.mk #[47, 99, 108, 97, 105, 109, 47, 99, 117, 116, 46, 112, 121]) 835)]), #[]⟩
noncomputable def o334_p5 (P : Params) : Obj := ⟨(.type PySem.W.SL.s7174869446012820540x8), none, (.func ⟨(Str.mk #[95, 108, 97, 119, 95, 102, 105, 108, 101]), (Str.mk #[95, 108, 97, 119, 95, 102, 105, 108, 101]), (fdOf (stm 24)).1, (.stmts (fdOf (stm 24)).2.1), (fdOf (stm 24)).2.2, 3, [], .none, .none, .none, (.str (Str.mk #[108, 97, 119, 95, 115, 110, 48, 48, 55, 48, 95, 48, 49]) 764), none, (.ref 333), .none, 0⟩), #[]⟩
noncomputable def o335_p5 (P : Params) : Obj := ⟨(.type PySem.W.SL.s2766695959194262286x5), none, (.seq #[] 0), #[]⟩
noncomputable def o336_p5 (P : Params) : Obj := ⟨.none, none, (.fields #[]), #[]⟩
noncomputable def o337_p5 (P : Params) : Obj := ⟨.none, none, (.func ⟨(Str.mk #[108, 97, 119]), (Str.mk #[108, 97, 119]), (fdOf (stm 25)).1, (.stmts (fdOf (stm 25)).2.1), (fdOf (stm 25)).2.2, 0, [], .none, .none, .none, .none, none, .none, .none, 0⟩), #[]⟩
noncomputable def o338_p5 (P : Params) : Obj := ⟨(.type PySem.W.SL.s5856160107412720595x4), none, (.fields #[(.str (Str.mk #[108, 97, 119]) 837), (.str (Str.mk #[108, 97, 119]) 838), (.str (Str.mk #[47, 99, 108, 97, 105, 109, 47, 99, 117, 116, 46, 112, 121]) 839), (.int 205 0), (.int 1 0), (.int 0 0), (.int 0 0), (.int 3 0), (.ref 335), (.bool true), (.int 276 0), (.ref 336), .none, .none, .none, (.ref 337), (.int 840 0), (.int 205 0), (.str (Str.mk #[47, 99, 108, 97, 105, 109, 47, 99, 117, 116, 46, 112, 121]) 841)]), #[]⟩
noncomputable def o339_p5 (P : Params) : Obj := ⟨(.type PySem.W.SL.s7174869446012820540x8), none, (.func ⟨(Str.mk #[108, 97, 119]), (Str.mk #[108, 97, 119]), (fdOf (stm 25)).1, (.stmts (fdOf (stm 25)).2.1), (fdOf (stm 25)).2.2, 3, [], .none, .none, .none, (.str (Str.mk #[108, 97, 119, 95, 115, 110, 48, 48, 55, 48, 95, 48, 49]) 764), none, (.ref 338), .none, 0⟩), #[]⟩
noncomputable def tr_p5_c88 (P : Params) : BT := (.node (o31_a P) (.node (o63_p2 P) (.node (o127_p2 P) (.node (o255_p4 P) .nil .nil) .nil) (.node (o191_p4 P) (.node (o319_p5 P) .nil .nil) .nil)) (.node (o95_p2 P) (.node (o159_p4 P) (.node (o287_p5 P) .nil .nil) .nil) (.node (o223_p4 P) .nil .nil)))
noncomputable def tr_p5_c89 (P : Params) : BT := (.node (o47_p1 P) (.node (o79_p2 P) (.node (o143_p3 P) (.node (o271_p4 P) .nil .nil) .nil) (.node (o207_p4 P) (.node (o335_p5 P) .nil .nil) .nil)) (.node (o111_p2 P) (.node (o175_p4 P) (.node (o303_p5 P) .nil .nil) .nil) (.node (o239_p4 P) .nil .nil)))
noncomputable def tr_p5_c90 (P : Params) : BT := (.node (o39_p0 P) (.node (o71_p2 P) (.node (o135_p3 P) (.node (o263_p4 P) .nil .nil) .nil) (.node (o199_p4 P) (.node (o327_p5 P) .nil .nil) .nil)) (.node (o103_p2 P) (.node (o167_p4 P) (.node (o295_p5 P) .nil .nil) .nil) (.node (o231_p4 P) .nil .nil)))
noncomputable def tr_p5_c91 (P : Params) : BT := (.node (o55_p1 P) (.node (o87_p2 P) (.node (o151_p3 P) (.node (o279_p4 P) .nil .nil) .nil) (.node (o215_p4 P) .nil .nil)) (.node (o119_p2 P) (.node (o183_p4 P) (.node (o311_p5 P) .nil .nil) .nil) (.node (o247_p4 P) .nil .nil)))
noncomputable def tr_p5_c92 (P : Params) : BT := (.node (o35_p0 P) (.node (o67_p2 P) (.node (o131_p3 P) (.node (o259_p4 P) .nil .nil) .nil) (.node (o195_p4 P) (.node (o323_p5 P) .nil .nil) .nil)) (.node (o99_p2 P) (.node (o163_p4 P) (.node (o291_p5 P) .nil .nil) .nil) (.node (o227_p4 P) .nil .nil)))
noncomputable def tr_p5_c93 (P : Params) : BT := (.node (o51_p1 P) (.node (o83_p2 P) (.node (o147_p3 P) (.node (o275_p4 P) .nil .nil) .nil) (.node (o211_p4 P) (.node (o339_p5 P) .nil .nil) .nil)) (.node (o115_p2 P) (.node (o179_p4 P) (.node (o307_p5 P) .nil .nil) .nil) (.node (o243_p4 P) .nil .nil)))
noncomputable def tr_p5_c94 (P : Params) : BT := (.node (o43_p0 P) (.node (o75_p2 P) (.node (o139_p3 P) (.node (o267_p4 P) .nil .nil) .nil) (.node (o203_p4 P) (.node (o331_p5 P) .nil .nil) .nil)) (.node (o107_p2 P) (.node (o171_p4 P) (.node (o299_p5 P) .nil .nil) .nil) (.node (o235_p4 P) .nil .nil)))
noncomputable def tr_p5_c95 (P : Params) : BT := (.node (o59_p2 P) (.node (o91_p2 P) (.node (o155_p4 P) (.node (o283_p5 P) .nil .nil) .nil) (.node (o219_p4 P) .nil .nil)) (.node (o123_p2 P) (.node (o187_p4 P) (.node (o315_p5 P) .nil .nil) .nil) (.node (o251_p4 P) .nil .nil)))
noncomputable def tr_p5_c96 (P : Params) : BT := (.node (o3_p5 P) (.node (o7_e P) (.node (o15_e P) (tr_p5_c88 P) (tr_p5_c89 P)) (.node (o23_e P) (tr_p5_c90 P) (tr_p5_c91 P))) (.node (o11_s P) (.node (o19_e P) (tr_p5_c92 P) (tr_p5_c93 P)) (.node (o27_e P) (tr_p5_c94 P) (tr_p5_c95 P))))
noncomputable def tr_p5_c97 (P : Params) : BT := (.node (o33_p0 P) (.node (o65_p2 P) (.node (o129_p2 P) (.node (o257_p4 P) .nil .nil) .nil) (.node (o193_p4 P) (.node (o321_p5 P) .nil .nil) .nil)) (.node (o97_p2 P) (.node (o161_p4 P) (.node (o289_p5 P) .nil .nil) .nil) (.node (o225_p4 P) .nil .nil)))
noncomputable def tr_p5_c98 (P : Params) : BT := (.node (o49_p1 P) (.node (o81_p2 P) (.node (o145_p3 P) (.node (o273_p4 P) .nil .nil) .nil) (.node (o209_p4 P) (.node (o337_p5 P) .nil .nil) .nil)) (.node (o113_p2 P) (.node (o177_p4 P) (.node (o305_p5 P) .nil .nil) .nil) (.node (o241_p4 P) .nil .nil)))
noncomputable def tr_p5_c99 (P : Params) : BT := (.node (o41_p0 P) (.node (o73_p2 P) (.node (o137_p3 P) (.node (o265_p4 P) .nil .nil) .nil) (.node (o201_p4 P) (.node (o329_p5 P) .nil .nil) .nil)) (.node (o105_p2 P) (.node (o169_p4 P) (.node (o297_p5 P) .nil .nil) .nil) (.node (o233_p4 P) .nil .nil)))
noncomputable def tr_p5_c100 (P : Params) : BT := (.node (o57_p1 P) (.node (o89_p2 P) (.node (o153_p3 P) (.node (o281_p5 P) .nil .nil) .nil) (.node (o217_p4 P) .nil .nil)) (.node (o121_p2 P) (.node (o185_p4 P) (.node (o313_p5 P) .nil .nil) .nil) (.node (o249_p4 P) .nil .nil)))
noncomputable def tr_p5_c101 (P : Params) : BT := (.node (o37_p0 P) (.node (o69_p2 P) (.node (o133_p3 P) (.node (o261_p4 P) .nil .nil) .nil) (.node (o197_p4 P) (.node (o325_p5 P) .nil .nil) .nil)) (.node (o101_p2 P) (.node (o165_p4 P) (.node (o293_p5 P) .nil .nil) .nil) (.node (o229_p4 P) .nil .nil)))
noncomputable def tr_p5_c102 (P : Params) : BT := (.node (o53_p1 P) (.node (o85_p2 P) (.node (o149_p3 P) (.node (o277_p4 P) .nil .nil) .nil) (.node (o213_p4 P) .nil .nil)) (.node (o117_p2 P) (.node (o181_p4 P) (.node (o309_p5 P) .nil .nil) .nil) (.node (o245_p4 P) .nil .nil)))
noncomputable def tr_p5_c103 (P : Params) : BT := (.node (o45_p0 P) (.node (o77_p2 P) (.node (o141_p3 P) (.node (o269_p4 P) .nil .nil) .nil) (.node (o205_p4 P) (.node (o333_p5 P) .nil .nil) .nil)) (.node (o109_p2 P) (.node (o173_p4 P) (.node (o301_p5 P) .nil .nil) .nil) (.node (o237_p4 P) .nil .nil)))
noncomputable def tr_p5_c104 (P : Params) : BT := (.node (o61_p2 P) (.node (o93_p2 P) (.node (o157_p4 P) (.node (o285_p5 P) .nil .nil) .nil) (.node (o221_p4 P) .nil .nil)) (.node (o125_p2 P) (.node (o189_p4 P) (.node (o317_p5 P) .nil .nil) .nil) (.node (o253_p4 P) .nil .nil)))
noncomputable def tr_p5_c105 (P : Params) : BT := (.node (o5_e P) (.node (o9_e P) (.node (o17_e P) (tr_p5_c97 P) (tr_p5_c98 P)) (.node (o25_e P) (tr_p5_c99 P) (tr_p5_c100 P))) (.node (o13_e P) (.node (o21_e P) (tr_p5_c101 P) (tr_p5_c102 P)) (.node (o29_p5 P) (tr_p5_c103 P) (tr_p5_c104 P))))
noncomputable def tr_p5_c106 (P : Params) : BT := (.node (o32_p0 P) (.node (o64_p2 P) (.node (o128_p2 P) (.node (o256_p4 P) .nil .nil) .nil) (.node (o192_p4 P) (.node (o320_p5 P) .nil .nil) .nil)) (.node (o96_p2 P) (.node (o160_p4 P) (.node (o288_p5 P) .nil .nil) .nil) (.node (o224_p4 P) .nil .nil)))
noncomputable def tr_p5_c107 (P : Params) : BT := (.node (o48_p1 P) (.node (o80_p2 P) (.node (o144_p3 P) (.node (o272_p4 P) .nil .nil) .nil) (.node (o208_p4 P) (.node (o336_p5 P) .nil .nil) .nil)) (.node (o112_p2 P) (.node (o176_p4 P) (.node (o304_p5 P) .nil .nil) .nil) (.node (o240_p4 P) .nil .nil)))
noncomputable def tr_p5_c108 (P : Params) : BT := (.node (o40_p0 P) (.node (o72_p2 P) (.node (o136_p3 P) (.node (o264_p4 P) .nil .nil) .nil) (.node (o200_p4 P) (.node (o328_p5 P) .nil .nil) .nil)) (.node (o104_p2 P) (.node (o168_p4 P) (.node (o296_p5 P) .nil .nil) .nil) (.node (o232_p4 P) .nil .nil)))
noncomputable def tr_p5_c109 (P : Params) : BT := (.node (o56_p1 P) (.node (o88_p2 P) (.node (o152_p3 P) (.node (o280_p4 P) .nil .nil) .nil) (.node (o216_p4 P) .nil .nil)) (.node (o120_p2 P) (.node (o184_p4 P) (.node (o312_p5 P) .nil .nil) .nil) (.node (o248_p4 P) .nil .nil)))
noncomputable def tr_p5_c110 (P : Params) : BT := (.node (o36_p0 P) (.node (o68_p2 P) (.node (o132_p3 P) (.node (o260_p4 P) .nil .nil) .nil) (.node (o196_p4 P) (.node (o324_p5 P) .nil .nil) .nil)) (.node (o100_p2 P) (.node (o164_p4 P) (.node (o292_p5 P) .nil .nil) .nil) (.node (o228_p4 P) .nil .nil)))
noncomputable def tr_p5_c111 (P : Params) : BT := (.node (o52_p1 P) (.node (o84_p2 P) (.node (o148_p3 P) (.node (o276_p4 P) .nil .nil) .nil) (.node (o212_p4 P) .nil .nil)) (.node (o116_p2 P) (.node (o180_p4 P) (.node (o308_p5 P) .nil .nil) .nil) (.node (o244_p4 P) .nil .nil)))
noncomputable def tr_p5_c112 (P : Params) : BT := (.node (o44_p0 P) (.node (o76_p2 P) (.node (o140_p3 P) (.node (o268_p4 P) .nil .nil) .nil) (.node (o204_p4 P) (.node (o332_p5 P) .nil .nil) .nil)) (.node (o108_p2 P) (.node (o172_p4 P) (.node (o300_p5 P) .nil .nil) .nil) (.node (o236_p4 P) .nil .nil)))
noncomputable def tr_p5_c113 (P : Params) : BT := (.node (o60_p2 P) (.node (o92_p2 P) (.node (o156_p4 P) (.node (o284_p5 P) .nil .nil) .nil) (.node (o220_p4 P) .nil .nil)) (.node (o124_p2 P) (.node (o188_p4 P) (.node (o316_p5 P) .nil .nil) .nil) (.node (o252_p4 P) .nil .nil)))
noncomputable def tr_p5_c114 (P : Params) : BT := (.node (o4_e P) (.node (o8_e P) (.node (o16_e P) (tr_p5_c106 P) (tr_p5_c107 P)) (.node (o24_e P) (tr_p5_c108 P) (tr_p5_c109 P))) (.node (o12_e P) (.node (o20_e P) (tr_p5_c110 P) (tr_p5_c111 P)) (.node (o28_a P) (tr_p5_c112 P) (tr_p5_c113 P))))
noncomputable def tr_p5_c115 (P : Params) : BT := (.node (o34_p0 P) (.node (o66_p2 P) (.node (o130_p2 P) (.node (o258_p4 P) .nil .nil) .nil) (.node (o194_p4 P) (.node (o322_p5 P) .nil .nil) .nil)) (.node (o98_p2 P) (.node (o162_p4 P) (.node (o290_p5 P) .nil .nil) .nil) (.node (o226_p4 P) .nil .nil)))
noncomputable def tr_p5_c116 (P : Params) : BT := (.node (o50_p1 P) (.node (o82_p2 P) (.node (o146_p3 P) (.node (o274_p4 P) .nil .nil) .nil) (.node (o210_p4 P) (.node (o338_p5 P) .nil .nil) .nil)) (.node (o114_p2 P) (.node (o178_p4 P) (.node (o306_p5 P) .nil .nil) .nil) (.node (o242_p4 P) .nil .nil)))
noncomputable def tr_p5_c117 (P : Params) : BT := (.node (o42_p0 P) (.node (o74_p2 P) (.node (o138_p3 P) (.node (o266_p4 P) .nil .nil) .nil) (.node (o202_p4 P) (.node (o330_p5 P) .nil .nil) .nil)) (.node (o106_p2 P) (.node (o170_p4 P) (.node (o298_p5 P) .nil .nil) .nil) (.node (o234_p4 P) .nil .nil)))
noncomputable def tr_p5_c118 (P : Params) : BT := (.node (o58_p2 P) (.node (o90_p2 P) (.node (o154_p4 P) (.node (o282_p5 P) .nil .nil) .nil) (.node (o218_p4 P) .nil .nil)) (.node (o122_p2 P) (.node (o186_p4 P) (.node (o314_p5 P) .nil .nil) .nil) (.node (o250_p4 P) .nil .nil)))
noncomputable def tr_p5_c119 (P : Params) : BT := (.node (o38_p0 P) (.node (o70_p2 P) (.node (o134_p3 P) (.node (o262_p4 P) .nil .nil) .nil) (.node (o198_p4 P) (.node (o326_p5 P) .nil .nil) .nil)) (.node (o102_p2 P) (.node (o166_p4 P) (.node (o294_p5 P) .nil .nil) .nil) (.node (o230_p4 P) .nil .nil)))
noncomputable def tr_p5_c120 (P : Params) : BT := (.node (o54_p1 P) (.node (o86_p2 P) (.node (o150_p3 P) (.node (o278_p4 P) .nil .nil) .nil) (.node (o214_p4 P) .nil .nil)) (.node (o118_p2 P) (.node (o182_p4 P) (.node (o310_p5 P) .nil .nil) .nil) (.node (o246_p4 P) .nil .nil)))
noncomputable def tr_p5_c121 (P : Params) : BT := (.node (o46_p0 P) (.node (o78_p2 P) (.node (o142_p3 P) (.node (o270_p4 P) .nil .nil) .nil) (.node (o206_p4 P) (.node (o334_p5 P) .nil .nil) .nil)) (.node (o110_p2 P) (.node (o174_p4 P) (.node (o302_p5 P) .nil .nil) .nil) (.node (o238_p4 P) .nil .nil)))
noncomputable def tr_p5_c122 (P : Params) : BT := (.node (o62_p2 P) (.node (o94_p2 P) (.node (o158_p4 P) (.node (o286_p5 P) .nil .nil) .nil) (.node (o222_p4 P) .nil .nil)) (.node (o126_p2 P) (.node (o190_p4 P) (.node (o318_p5 P) .nil .nil) .nil) (.node (o254_p4 P) .nil .nil)))
noncomputable def tr_p5_c123 (P : Params) : BT := (.node (o6_e P) (.node (o10_e P) (.node (o18_e P) (tr_p5_c115 P) (tr_p5_c116 P)) (.node (o26_e P) (tr_p5_c117 P) (tr_p5_c118 P))) (.node (o14_e P) (.node (o22_e P) (tr_p5_c119 P) (tr_p5_c120 P)) (.node (o30_a P) (tr_p5_c121 P) (tr_p5_c122 P))))
noncomputable def tr_p5 (P : Params) : BT := (.node (o0_e P) (.node (o1_e P) (tr_p5_c96 P) (tr_p5_c105 P)) (.node (o2_e P) (tr_p5_c114 P) (tr_p5_c123 P)))
noncomputable def L_p5 (w : World) : OsState → Option (Flow × SharedT × Code × Pos) := fun os => segRunT treeTable pw w 28 (some (.ref 6)) 1 281 ⟨tr_p4 w.params, 281, {}, #[], {}, 764, os⟩ (piecesOf sts5 env0 cd0 ⟨84, 0, 164, 93⟩ fr0)
noncomputable def R_p5 (w : World) : OsState → Option (Flow × SharedT × Code × Pos) := fun os => some (.next, ⟨tr_p5 w.params, 340, {}, #[], {}, 843, os⟩, cd0, ⟨205, 0, 232, 15⟩)
theorem L_p5_self : L_p5 = L_p5 := rfl
theorem R_p5_self : R_p5 = R_p5 := rfl
name_quick L_p5Q for L_p5 by L_p5_self
name_quick R_p5Q for R_p5 by R_p5_self
theorem E_p5 (w : World) : L_p5 w = R_p5 w := by
  rw [PySem.W.Fast.L_p5Q_eq, PySem.W.Fast.R_p5Q_eq]
  kernel_rfl
noncomputable def hp_f_c0 (P : Params) (r : List Obj) : List Obj := o0_e P :: o1_e P :: o2_e P :: o3_p5 P :: o4_e P :: o5_e P :: o6_e P :: o7_e P :: o8_e P :: o9_e P :: o10_e P :: o11_s P :: o12_e P :: o13_e P :: o14_e P :: o15_e P :: o16_e P :: o17_e P :: r
noncomputable def hp_f_c1 (P : Params) (r : List Obj) : List Obj := o18_e P :: o19_e P :: o20_e P :: o21_e P :: o22_e P :: o23_e P :: o24_e P :: o25_e P :: o26_e P :: o27_e P :: o28_a P :: o29_p5 P :: o30_a P :: o31_a P :: o32_p0 P :: o33_p0 P :: o34_p0 P :: o35_p0 P :: r
noncomputable def hp_f_c2 (P : Params) (r : List Obj) : List Obj := o36_p0 P :: o37_p0 P :: o38_p0 P :: o39_p0 P :: o40_p0 P :: o41_p0 P :: o42_p0 P :: o43_p0 P :: o44_p0 P :: o45_p0 P :: o46_p0 P :: o47_p1 P :: o48_p1 P :: o49_p1 P :: o50_p1 P :: o51_p1 P :: o52_p1 P :: o53_p1 P :: r
noncomputable def hp_f_c3 (P : Params) (r : List Obj) : List Obj := o54_p1 P :: o55_p1 P :: o56_p1 P :: o57_p1 P :: o58_p2 P :: o59_p2 P :: o60_p2 P :: o61_p2 P :: o62_p2 P :: o63_p2 P :: o64_p2 P :: o65_p2 P :: o66_p2 P :: o67_p2 P :: o68_p2 P :: o69_p2 P :: o70_p2 P :: o71_p2 P :: r
noncomputable def hp_f_c4 (P : Params) (r : List Obj) : List Obj := o72_p2 P :: o73_p2 P :: o74_p2 P :: o75_p2 P :: o76_p2 P :: o77_p2 P :: o78_p2 P :: o79_p2 P :: o80_p2 P :: o81_p2 P :: o82_p2 P :: o83_p2 P :: o84_p2 P :: o85_p2 P :: o86_p2 P :: o87_p2 P :: o88_p2 P :: o89_p2 P :: r
noncomputable def hp_f_c5 (P : Params) (r : List Obj) : List Obj := o90_p2 P :: o91_p2 P :: o92_p2 P :: o93_p2 P :: o94_p2 P :: o95_p2 P :: o96_p2 P :: o97_p2 P :: o98_p2 P :: o99_p2 P :: o100_p2 P :: o101_p2 P :: o102_p2 P :: o103_p2 P :: o104_p2 P :: o105_p2 P :: o106_p2 P :: o107_p2 P :: r
noncomputable def hp_f_c6 (P : Params) (r : List Obj) : List Obj := o108_p2 P :: o109_p2 P :: o110_p2 P :: o111_p2 P :: o112_p2 P :: o113_p2 P :: o114_p2 P :: o115_p2 P :: o116_p2 P :: o117_p2 P :: o118_p2 P :: o119_p2 P :: o120_p2 P :: o121_p2 P :: o122_p2 P :: o123_p2 P :: o124_p2 P :: o125_p2 P :: r
noncomputable def hp_f_c7 (P : Params) (r : List Obj) : List Obj := o126_p2 P :: o127_p2 P :: o128_p2 P :: o129_p2 P :: o130_p2 P :: o131_p3 P :: o132_p3 P :: o133_p3 P :: o134_p3 P :: o135_p3 P :: o136_p3 P :: o137_p3 P :: o138_p3 P :: o139_p3 P :: o140_p3 P :: o141_p3 P :: o142_p3 P :: o143_p3 P :: r
noncomputable def hp_f_c8 (P : Params) (r : List Obj) : List Obj := o144_p3 P :: o145_p3 P :: o146_p3 P :: o147_p3 P :: o148_p3 P :: o149_p3 P :: o150_p3 P :: o151_p3 P :: o152_p3 P :: o153_p3 P :: o154_p4 P :: o155_p4 P :: o156_p4 P :: o157_p4 P :: o158_p4 P :: o159_p4 P :: o160_p4 P :: o161_p4 P :: r
noncomputable def hp_f_c9 (P : Params) (r : List Obj) : List Obj := o162_p4 P :: o163_p4 P :: o164_p4 P :: o165_p4 P :: o166_p4 P :: o167_p4 P :: o168_p4 P :: o169_p4 P :: o170_p4 P :: o171_p4 P :: o172_p4 P :: o173_p4 P :: o174_p4 P :: o175_p4 P :: o176_p4 P :: o177_p4 P :: o178_p4 P :: o179_p4 P :: r
noncomputable def hp_f_c10 (P : Params) (r : List Obj) : List Obj := o180_p4 P :: o181_p4 P :: o182_p4 P :: o183_p4 P :: o184_p4 P :: o185_p4 P :: o186_p4 P :: o187_p4 P :: o188_p4 P :: o189_p4 P :: o190_p4 P :: o191_p4 P :: o192_p4 P :: o193_p4 P :: o194_p4 P :: o195_p4 P :: o196_p4 P :: o197_p4 P :: r
noncomputable def hp_f_c11 (P : Params) (r : List Obj) : List Obj := o198_p4 P :: o199_p4 P :: o200_p4 P :: o201_p4 P :: o202_p4 P :: o203_p4 P :: o204_p4 P :: o205_p4 P :: o206_p4 P :: o207_p4 P :: o208_p4 P :: o209_p4 P :: o210_p4 P :: o211_p4 P :: o212_p4 P :: o213_p4 P :: o214_p4 P :: o215_p4 P :: r
noncomputable def hp_f_c12 (P : Params) (r : List Obj) : List Obj := o216_p4 P :: o217_p4 P :: o218_p4 P :: o219_p4 P :: o220_p4 P :: o221_p4 P :: o222_p4 P :: o223_p4 P :: o224_p4 P :: o225_p4 P :: o226_p4 P :: o227_p4 P :: o228_p4 P :: o229_p4 P :: o230_p4 P :: o231_p4 P :: o232_p4 P :: o233_p4 P :: r
noncomputable def hp_f_c13 (P : Params) (r : List Obj) : List Obj := o234_p4 P :: o235_p4 P :: o236_p4 P :: o237_p4 P :: o238_p4 P :: o239_p4 P :: o240_p4 P :: o241_p4 P :: o242_p4 P :: o243_p4 P :: o244_p4 P :: o245_p4 P :: o246_p4 P :: o247_p4 P :: o248_p4 P :: o249_p4 P :: o250_p4 P :: o251_p4 P :: r
noncomputable def hp_f_c14 (P : Params) (r : List Obj) : List Obj := o252_p4 P :: o253_p4 P :: o254_p4 P :: o255_p4 P :: o256_p4 P :: o257_p4 P :: o258_p4 P :: o259_p4 P :: o260_p4 P :: o261_p4 P :: o262_p4 P :: o263_p4 P :: o264_p4 P :: o265_p4 P :: o266_p4 P :: o267_p4 P :: o268_p4 P :: o269_p4 P :: r
noncomputable def hp_f_c15 (P : Params) (r : List Obj) : List Obj := o270_p4 P :: o271_p4 P :: o272_p4 P :: o273_p4 P :: o274_p4 P :: o275_p4 P :: o276_p4 P :: o277_p4 P :: o278_p4 P :: o279_p4 P :: o280_p4 P :: o281_p5 P :: o282_p5 P :: o283_p5 P :: o284_p5 P :: o285_p5 P :: o286_p5 P :: o287_p5 P :: r
noncomputable def hp_f_c16 (P : Params) (r : List Obj) : List Obj := o288_p5 P :: o289_p5 P :: o290_p5 P :: o291_p5 P :: o292_p5 P :: o293_p5 P :: o294_p5 P :: o295_p5 P :: o296_p5 P :: o297_p5 P :: o298_p5 P :: o299_p5 P :: o300_p5 P :: o301_p5 P :: o302_p5 P :: o303_p5 P :: o304_p5 P :: o305_p5 P :: r
noncomputable def hp_f_c17 (P : Params) (r : List Obj) : List Obj := o306_p5 P :: o307_p5 P :: o308_p5 P :: o309_p5 P :: o310_p5 P :: o311_p5 P :: o312_p5 P :: o313_p5 P :: o314_p5 P :: o315_p5 P :: o316_p5 P :: o317_p5 P :: o318_p5 P :: o319_p5 P :: o320_p5 P :: o321_p5 P :: o322_p5 P :: o323_p5 P :: r
noncomputable def hp_f_c18 (P : Params) (r : List Obj) : List Obj := o324_p5 P :: o325_p5 P :: o326_p5 P :: o327_p5 P :: o328_p5 P :: o329_p5 P :: o330_p5 P :: o331_p5 P :: o332_p5 P :: o333_p5 P :: o334_p5 P :: o335_p5 P :: o336_p5 P :: o337_p5 P :: o338_p5 P :: o339_p5 P :: r
noncomputable def hp_f (P : Params) : Heap := ⟨⟨(hp_f_c0 P (hp_f_c1 P (hp_f_c2 P (hp_f_c3 P (hp_f_c4 P (hp_f_c5 P (hp_f_c6 P (hp_f_c7 P (hp_f_c8 P (hp_f_c9 P (hp_f_c10 P (hp_f_c11 P (hp_f_c12 P (hp_f_c13 P (hp_f_c14 P (hp_f_c15 P (hp_f_c16 P (hp_f_c17 P (hp_f_c18 P [])))))))))))))))))))⟩, {}⟩
noncomputable def L_fin (w : World) : OsState → Option Shared := fun os => topRun treeTable pw w 28 (some (.ref 6)) 2 ((SharedT.mk (tr_p5 w.params) 340 {} #[] {} 843 os).abs) ⟨doneF .next, cd0, ⟨205, 0, 232, 15⟩, fr0⟩
noncomputable def R_fin (w : World) : OsState → Option Shared := fun os => some ⟨hp_f w.params, #[], {}, 843, os⟩
theorem L_fin_self : L_fin = L_fin := rfl
theorem R_fin_self : R_fin = R_fin := rfl
name_quick L_finQ for L_fin by L_fin_self
name_quick R_finQ for R_fin by R_fin_self
theorem E_fin (w : World) : L_fin w = R_fin w := by
  rw [PySem.W.Fast.L_finQ_eq, PySem.W.Fast.R_finQ_eq]
  kernel_rfl
-- K: 196 objects
noncomputable def n2_e (P : Params) : Obj := ⟨.none, none, (.dict #[⟨PyData.keyHash P (Str.mk #[105, 109, 112, 111, 114, 116, 46, 108, 111, 97, 100, 101, 100, 46, 95, 115, 114, 101]), (.str (Str.mk #[105, 109, 112, 111, 114, 116, 46, 108, 111, 97, 100, 101, 100, 46, 95, 115, 114, 101]) 183), (.bool true)⟩, ⟨PyData.keyHash P (Str.ofString "class._frozen_importlib.BuiltinImporter"), (.str (Str.ofString "class._frozen_importlib.BuiltinImporter") 185), (.ref 14)⟩, ⟨PyData.keyHash P (Str.mk #[119, 97, 116, 99, 104, 101, 100, 46, 105, 109, 112, 111, 114, 116]), (.str (Str.mk #[119, 97, 116, 99, 104, 101, 100, 46, 105, 109, 112, 111, 114, 116]) 206), (.ref 18)⟩, ⟨PyData.keyHash P (Str.ofString "class._frozen_importlib.ModuleSpec"), (.str (Str.ofString "class._frozen_importlib.ModuleSpec") 216), (.ref 22)⟩, ⟨PyData.keyHash P (Str.ofString "sys.modules.booked-epoch"), (.str (Str.ofString "sys.modules.booked-epoch") 245), (.int 3 0)⟩, ⟨PyData.keyHash P (Str.mk #[105, 109, 112, 111, 114, 116, 46, 108, 97, 116, 101, 114, 45, 108, 97, 105, 100, 46, 95, 115, 114, 101]), (.str (Str.mk #[105, 109, 112, 111, 114, 116, 46, 108, 97, 116, 101, 114, 45, 108, 97, 105, 100, 46, 95, 115, 114, 101]) 270), (.bool true)⟩, ⟨PyData.keyHash P (Str.ofString "watched.library"), (.str (Str.ofString "watched.library") 272), (.ref 27)⟩, ⟨PyData.keyHash P (Str.ofString "watched.library-objects"), (.str (Str.ofString "watched.library-objects") 0), (.str (Str.ofString "\u000c") 0)⟩, ⟨PyData.keyHash P (Str.ofString "watched.library-deep._sre"), (.str (Str.ofString "watched.library-deep._sre") 273), (.str (Str.ofString "\u0004\u0000\u0000\u000b\u0004\u0000\u0000\u000b\u0004\u0000\u0000\u0003\u0004\u0000\u0000\u000b\u0008\u0004dict\u0002") 0)⟩] 9), #[]⟩
noncomputable def n32_p0 (P : Params) : Obj := ⟨(.type "tuple"), none, (.seq #[] 0), #[]⟩
noncomputable def n34_p0 (P : Params) : Obj := ⟨(.type "tuple"), none, (.seq #[(.str (Str.ofString "k") 285)] 0), #[]⟩
noncomputable def n35_p0 (P : Params) : Obj := ⟨(.type "tuple"), none, (.seq #[] 0), #[]⟩
noncomputable def n37_p0 (P : Params) : Obj := ⟨(.type "code"), none, (.fields #[(.str (Str.ofString "_wall") 282), (.str (Str.ofString "_wall") 283), (.str (Str.ofString "/claim/cut.py") 284), (.int 2 0), (.int 1 0), (.int 0 0), (.int 0 0), (.int 3 0), (.ref 32), (.bool true), (.int 276 0), (.ref 33), .none, (.ref 34), (.ref 35), (.ref 36), (.int 286 0), (.int 2 0), (.str (Str.ofString "/claim/cut.py") 287)]), #[]⟩
noncomputable def n38_p0 (P : Params) : Obj := ⟨(.type "function"), none, (.func ⟨(Str.ofString "_wall"), (Str.ofString "_wall"), (fdOf (stm 1)).1, (.stmts (fdOf (stm 1)).2.1), (fdOf (stm 1)).2.2, 3, [], .none, .none, .none, (.str (Str.ofString "__main__") 164), none, (.ref 37), .none, 0⟩), #[]⟩
noncomputable def n39_p0 (P : Params) : Obj := ⟨(.type "dict"), none, (.dict #[⟨1, (.int 1 291), (.str (Str.ofString "OPTIMIZED") 292)⟩, ⟨2, (.int 2 293), (.str (Str.ofString "NEWLOCALS") 294)⟩, ⟨4, (.int 4 295), (.str (Str.ofString "VARARGS") 296)⟩, ⟨8, (.int 8 297), (.str (Str.ofString "VARKEYWORDS") 298)⟩, ⟨16, (.int 16 299), (.str (Str.ofString "NESTED") 300)⟩, ⟨32, (.int 32 301), (.str (Str.ofString "GENERATOR") 302)⟩, ⟨64, (.int 64 303), (.str (Str.ofString "NOFREE") 304)⟩, ⟨128, (.int 128 305), (.str (Str.ofString "COROUTINE") 306)⟩, ⟨256, (.int 256 307), (.str (Str.ofString "ITERABLE_COROUTINE") 308)⟩, ⟨512, (.int 512 309), (.str (Str.ofString "ASYNC_GENERATOR") 310)⟩] 10), #[]⟩
noncomputable def n40_p0 (P : Params) : Obj := ⟨(.type "tuple"), none, (.seq #[] 0), #[]⟩
noncomputable def n42_p0 (P : Params) : Obj := ⟨(.type "tuple"), none, (.seq #[(.str (Str.ofString "flags") 325), (.str (Str.ofString "names") 326), (.str (Str.ofString "i") 327), (.str (Str.ofString "flag") 328)] 0), #[]⟩
noncomputable def n43_p0 (P : Params) : Obj := ⟨(.type "tuple"), none, (.seq #[] 0), #[]⟩
noncomputable def n45_p0 (P : Params) : Obj := ⟨(.type "code"), none, (.fields #[(.str (Str.ofString "pretty_flags") 322), (.str (Str.ofString "pretty_flags") 323), (.str (Str.ofString "/claim/cut.py") 324), (.int 7 0), (.int 1 0), (.int 0 0), (.int 0 0), (.int 3 0), (.ref 40), (.bool true), (.int 276 0), (.ref 41), .none, (.ref 42), (.ref 43), (.ref 44), (.int 329 0), (.int 7 0), (.str (Str.ofString "/claim/cut.py") 330)]), #[]⟩
noncomputable def n46_p0 (P : Params) : Obj := ⟨(.type "function"), none, (.func ⟨(Str.ofString "pretty_flags"), (Str.ofString "pretty_flags"), (fdOf (stm 4)).1, (.stmts (fdOf (stm 4)).2.1), (fdOf (stm 4)).2.2, 3, [], .none, .none, .none, (.str (Str.ofString "cpy313.dis") 289), none, (.ref 45), .none, 0⟩), #[]⟩
noncomputable def n54_p1 (P : Params) : Obj := ⟨(.type "set"), none, (.set #[(65024, (.int 65024 350)), (65025, (.int 65025 351)), (65026, (.int 65026 352)), (65027, (.int 65027 353)), (65028, (.int 65028 354)), (65029, (.int 65029 355)), (6150, (.int 6150 336)), (65030, (.int 65030 356)), (65031, (.int 65031 357)), (65032, (.int 65032 358)), (65033, (.int 65033 359)), (6155, (.int 6155 337)), (6156, (.int 6156 338)), (6157, (.int 6157 339)), (8203, (.int 8203 340)), (8204, (.int 8204 341)), (8205, (.int 8205 342)), (65034, (.int 65034 360)), (65035, (.int 65035 361)), (65036, (.int 65036 362)), (65037, (.int 65037 363)), (65038, (.int 65038 364)), (65039, (.int 65039 365)), (173, (.int 173 334)), (847, (.int 847 335)), (8288, (.int 8288 343)), (65279, (.int 65279 344))] 29 ⟨127, #[0, 1, 2, 3, 4, 5, 6, 7, 8, 9, 10, 11, 12, 13, 14, 15, 16, 17, 18, 19, 20, 21, 22, 45, 79, 96, 127], #[], 0, (!P.followText "set-order"), 2, true⟩), #[]⟩
noncomputable def n58_p2 (P : Params) : Obj := ⟨(.type "tuple"), none, (.seq #[] 0), #[]⟩
noncomputable def n60_p2 (P : Params) : Obj := ⟨(.type "tuple"), none, (.seq #[(.str (Str.ofString "code") 397)] 0), #[]⟩
noncomputable def n61_p2 (P : Params) : Obj := ⟨(.type "tuple"), none, (.seq #[] 0), #[]⟩
noncomputable def n63_p2 (P : Params) : Obj := ⟨(.type "code"), none, (.fields #[(.str (Str.ofString "in_table_b1") 394), (.str (Str.ofString "in_table_b1") 395), (.str (Str.ofString "/claim/cut.py") 396), (.int 21 0), (.int 1 0), (.int 0 0), (.int 0 0), (.int 3 0), (.ref 58), (.bool true), (.int 276 0), (.ref 59), .none, (.ref 60), (.ref 61), (.ref 62), (.int 398 0), (.int 21 0), (.str (Str.ofString "/claim/cut.py") 399)]), #[]⟩
noncomputable def n64_p2 (P : Params) : Obj := ⟨(.type "function"), none, (.func ⟨(Str.ofString "in_table_b1"), (Str.ofString "in_table_b1"), (fdOf (stm 7)).1, (.stmts (fdOf (stm 7)).2.1), (fdOf (stm 7)).2.2, 3, [], .none, .none, .none, (.str (Str.ofString "cpy313.stringprep") 332), none, (.ref 63), .none, 0⟩), #[]⟩
noncomputable def n75_p2 (P : Params) : Obj := ⟨(.type "tuple"), none, (.seq #[] 0), #[]⟩
noncomputable def n77_p2 (P : Params) : Obj := ⟨(.type "tuple"), none, (.seq #[(.str (Str.ofString "self") 423), (.str (Str.ofString "ws") 424), (.str (Str.ofString "S") 425), (.str (Str.ofString "T") 426), (.str (Str.ofString "count") 427), (.str (Str.ofString "b") 428), (.str (Str.ofString "n") 429), (.str (Str.ofString "nt") 430), (.str (Str.ofString "ch") 431)] 0), #[]⟩
noncomputable def n78_p2 (P : Params) : Obj := ⟨(.type "tuple"), none, (.seq #[] 0), #[]⟩
noncomputable def n80_p2 (P : Params) : Obj := ⟨(.type "code"), none, (.fields #[(.str (Str.ofString "__init__") 420), (.str (Str.ofString "Whitespace.__init__") 421), (.str (Str.ofString "/claim/cut.py") 422), (.int 27 0), (.int 2 0), (.int 0 0), (.int 0 0), (.int 3 0), (.ref 75), (.bool true), (.int 276 0), (.ref 76), .none, (.ref 77), (.ref 78), (.ref 79), (.int 432 0), (.int 27 0), (.str (Str.ofString "/claim/cut.py") 433)]), #[]⟩
noncomputable def n81_p2 (P : Params) : Obj := ⟨(.type "function"), none, (.func ⟨(Str.ofString "__init__"), (Str.ofString "Whitespace.__init__"), (fdOf (mth 9 1)).1, (.stmts (fdOf (mth 9 1)).2.1), (fdOf (mth 9 1)).2.2, 3, [], .none, .none, .none, (.str (Str.ofString "cpy313.tabnanny") 401), none, (.ref 80), .none, 0⟩), #[]⟩
noncomputable def n82_p2 (P : Params) : Obj := ⟨(.type "tuple"), none, (.seq #[] 0), #[]⟩
noncomputable def n84_p2 (P : Params) : Obj := ⟨(.type "tuple"), none, (.seq #[(.str (Str.ofString "self") 438)] 0), #[]⟩
noncomputable def n85_p2 (P : Params) : Obj := ⟨(.type "tuple"), none, (.seq #[] 0), #[]⟩
noncomputable def n87_p2 (P : Params) : Obj := ⟨(.type "code"), none, (.fields #[(.str (Str.ofString "longest_run_of_spaces") 435), (.str (Str.ofString "Whitespace.longest_run_of_spaces") 436), (.str (Str.ofString "/claim/cut.py") 437), (.int 50 0), (.int 1 0), (.int 0 0), (.int 0 0), (.int 3 0), (.ref 82), (.bool true), (.int 276 0), (.ref 83), .none, (.ref 84), (.ref 85), (.ref 86), (.int 439 0), (.int 50 0), (.str (Str.ofString "/claim/cut.py") 440)]), #[]⟩
noncomputable def n88_p2 (P : Params) : Obj := ⟨(.type "function"), none, (.func ⟨(Str.ofString "longest_run_of_spaces"), (Str.ofString "Whitespace.longest_run_of_spaces"), (fdOf (mth 9 2)).1, (.stmts (fdOf (mth 9 2)).2.1), (fdOf (mth 9 2)).2.2, 3, [], .none, .none, .none, (.str (Str.ofString "cpy313.tabnanny") 401), none, (.ref 87), .none, 0⟩), #[]⟩
noncomputable def n89_p2 (P : Params) : Obj := ⟨(.type "tuple"), none, (.seq #[] 0), #[]⟩
noncomputable def n91_p2 (P : Params) : Obj := ⟨(.type "tuple"), none, (.seq #[(.str (Str.ofString "self") 445), (.str (Str.ofString "tabsize") 446), (.str (Str.ofString "count") 447), (.str (Str.ofString "trailing") 448), (.str (Str.ofString "il") 449), (.str (Str.ofString "i") 450)] 0), #[]⟩
noncomputable def n92_p2 (P : Params) : Obj := ⟨(.type "tuple"), none, (.seq #[] 0), #[]⟩
noncomputable def n94_p2 (P : Params) : Obj := ⟨(.type "code"), none, (.fields #[(.str (Str.ofString "indent_level") 442), (.str (Str.ofString "Whitespace.indent_level") 443), (.str (Str.ofString "/claim/cut.py") 444), (.int 53 0), (.int 2 0), (.int 0 0), (.int 0 0), (.int 3 0), (.ref 89), (.bool true), (.int 276 0), (.ref 90), .none, (.ref 91), (.ref 92), (.ref 93), (.int 451 0), (.int 53 0), (.str (Str.ofString "/claim/cut.py") 452)]), #[]⟩
noncomputable def n95_p2 (P : Params) : Obj := ⟨(.type "function"), none, (.func ⟨(Str.ofString "indent_level"), (Str.ofString "Whitespace.indent_level"), (fdOf (mth 9 3)).1, (.stmts (fdOf (mth 9 3)).2.1), (fdOf (mth 9 3)).2.2, 3, [], .none, .none, .none, (.str (Str.ofString "cpy313.tabnanny") 401), none, (.ref 94), .none, 0⟩), #[]⟩
noncomputable def n96_p2 (P : Params) : Obj := ⟨(.type "tuple"), none, (.seq #[] 0), #[]⟩
noncomputable def n98_p2 (P : Params) : Obj := ⟨(.type "tuple"), none, (.seq #[(.str (Str.ofString "self") 457), (.str (Str.ofString "other") 458)] 0), #[]⟩
noncomputable def n99_p2 (P : Params) : Obj := ⟨(.type "tuple"), none, (.seq #[] 0), #[]⟩
noncomputable def n101_p2 (P : Params) : Obj := ⟨(.type "code"), none, (.fields #[(.str (Str.ofString "equal") 454), (.str (Str.ofString "Whitespace.equal") 455), (.str (Str.ofString "/claim/cut.py") 456), (.int 60 0), (.int 2 0), (.int 0 0), (.int 0 0), (.int 3 0), (.ref 96), (.bool true), (.int 276 0), (.ref 97), .none, (.ref 98), (.ref 99), (.ref 100), (.int 459 0), (.int 60 0), (.str (Str.ofString "/claim/cut.py") 460)]), #[]⟩
noncomputable def n102_p2 (P : Params) : Obj := ⟨(.type "function"), none, (.func ⟨(Str.ofString "equal"), (Str.ofString "Whitespace.equal"), (fdOf (mth 9 4)).1, (.stmts (fdOf (mth 9 4)).2.1), (fdOf (mth 9 4)).2.2, 3, [], .none, .none, .none, (.str (Str.ofString "cpy313.tabnanny") 401), none, (.ref 101), .none, 0⟩), #[]⟩
noncomputable def n103_p2 (P : Params) : Obj := ⟨(.type "tuple"), none, (.seq #[] 0), #[]⟩
noncomputable def n105_p2 (P : Params) : Obj := ⟨(.type "tuple"), none, (.seq #[(.str (Str.ofString "self") 465), (.str (Str.ofString "other") 466)] 0), #[]⟩
noncomputable def n106_p2 (P : Params) : Obj := ⟨(.type "tuple"), none, (.seq #[] 0), #[]⟩
noncomputable def n108_p2 (P : Params) : Obj := ⟨(.type "code"), none, (.fields #[(.str (Str.ofString "not_equal_witness") 462), (.str (Str.ofString "Whitespace.not_equal_witness") 463), (.str (Str.ofString "/claim/cut.py") 464), (.int 63 0), (.int 2 0), (.int 0 0), (.int 0 0), (.int 3 0), (.ref 103), (.bool true), (.int 276 0), (.ref 104), .none, (.ref 105), (.ref 106), (.ref 107), (.int 467 0), (.int 63 0), (.str (Str.ofString "/claim/cut.py") 468)]), #[]⟩
noncomputable def n109_p2 (P : Params) : Obj := ⟨(.type "function"), none, (.func ⟨(Str.ofString "not_equal_witness"), (Str.ofString "Whitespace.not_equal_witness"), (fdOf (mth 9 5)).1, (.stmts (fdOf (mth 9 5)).2.1), (fdOf (mth 9 5)).2.2, 3, [], .none, .none, .none, (.str (Str.ofString "cpy313.tabnanny") 401), none, (.ref 108), .none, 0⟩), #[]⟩
noncomputable def n110_p2 (P : Params) : Obj := ⟨(.type "tuple"), none, (.seq #[] 0), #[]⟩
noncomputable def n112_p2 (P : Params) : Obj := ⟨(.type "tuple"), none, (.seq #[(.str (Str.ofString "self") 473), (.str (Str.ofString "other") 474)] 0), #[]⟩
noncomputable def n113_p2 (P : Params) : Obj := ⟨(.type "tuple"), none, (.seq #[] 0), #[]⟩
noncomputable def n115_p2 (P : Params) : Obj := ⟨(.type "code"), none, (.fields #[(.str (Str.ofString "less") 470), (.str (Str.ofString "Whitespace.less") 471), (.str (Str.ofString "/claim/cut.py") 472), (.int 66 0), (.int 2 0), (.int 0 0), (.int 0 0), (.int 3 0), (.ref 110), (.bool true), (.int 276 0), (.ref 111), .none, (.ref 112), (.ref 113), (.ref 114), (.int 475 0), (.int 66 0), (.str (Str.ofString "/claim/cut.py") 476)]), #[]⟩
noncomputable def n116_p2 (P : Params) : Obj := ⟨(.type "function"), none, (.func ⟨(Str.ofString "less"), (Str.ofString "Whitespace.less"), (fdOf (mth 9 6)).1, (.stmts (fdOf (mth 9 6)).2.1), (fdOf (mth 9 6)).2.2, 3, [], .none, .none, .none, (.str (Str.ofString "cpy313.tabnanny") 401), none, (.ref 115), .none, 0⟩), #[]⟩
noncomputable def n117_p2 (P : Params) : Obj := ⟨(.type "tuple"), none, (.seq #[] 0), #[]⟩
noncomputable def n119_p2 (P : Params) : Obj := ⟨(.type "tuple"), none, (.seq #[(.str (Str.ofString "self") 481), (.str (Str.ofString "other") 482)] 0), #[]⟩
noncomputable def n120_p2 (P : Params) : Obj := ⟨(.type "tuple"), none, (.seq #[] 0), #[]⟩
noncomputable def n122_p2 (P : Params) : Obj := ⟨(.type "code"), none, (.fields #[(.str (Str.ofString "not_less_witness") 478), (.str (Str.ofString "Whitespace.not_less_witness") 479), (.str (Str.ofString "/claim/cut.py") 480), (.int 69 0), (.int 2 0), (.int 0 0), (.int 0 0), (.int 3 0), (.ref 117), (.bool true), (.int 276 0), (.ref 118), .none, (.ref 119), (.ref 120), (.ref 121), (.int 483 0), (.int 69 0), (.str (Str.ofString "/claim/cut.py") 484)]), #[]⟩
noncomputable def n123_p2 (P : Params) : Obj := ⟨(.type "function"), none, (.func ⟨(Str.ofString "not_less_witness"), (Str.ofString "Whitespace.not_less_witness"), (fdOf (mth 9 7)).1, (.stmts (fdOf (mth 9 7)).2.1), (fdOf (mth 9 7)).2.2, 3, [], .none, .none, .none, (.str (Str.ofString "cpy313.tabnanny") 401), none, (.ref 122), .none, 0⟩), #[]⟩
noncomputable def n124_p2 (P : Params) : Obj := ⟨(.type "tuple"), none, (.seq #[(.str (Str.ofString "is_simple") 486), (.str (Str.ofString "n") 487), (.str (Str.ofString "norm") 488), (.str (Str.ofString "nt") 489), (.str (Str.ofString "raw") 490)] 0), #[]⟩
noncomputable def n125_p2 (P : Params) : Obj := ⟨(.type "dict"), none, (.dict #[⟨PyData.keyHash P (Str.ofString "__module__"), (.str (Str.ofString "__module__") 410), (.str (Str.ofString "cpy313.tabnanny") 401)⟩, ⟨PyData.keyHash P (Str.ofString "__firstlineno__"), (.str (Str.ofString "__firstlineno__") 414), (.int 24 413)⟩, ⟨PyData.keyHash P (Str.ofString "S"), (.str (Str.ofString "S") 418), (.str (Str.ofString " ") 416)⟩, ⟨PyData.keyHash P (Str.ofString "T"), (.str (Str.ofString "T") 419), (.str (Str.ofString "\t") 417)⟩, ⟨PyData.keyHash P (Str.ofString "__init__"), (.str (Str.ofString "__init__") 434), (.ref 81)⟩, ⟨PyData.keyHash P (Str.ofString "longest_run_of_spaces"), (.str (Str.ofString "longest_run_of_spaces") 441), (.ref 88)⟩, ⟨PyData.keyHash P (Str.ofString "indent_level"), (.str (Str.ofString "indent_level") 453), (.ref 95)⟩, ⟨PyData.keyHash P (Str.ofString "equal"), (.str (Str.ofString "equal") 461), (.ref 102)⟩, ⟨PyData.keyHash P (Str.ofString "not_equal_witness"), (.str (Str.ofString "not_equal_witness") 469), (.ref 109)⟩, ⟨PyData.keyHash P (Str.ofString "less"), (.str (Str.ofString "less") 477), (.ref 116)⟩, ⟨PyData.keyHash P (Str.ofString "not_less_witness"), (.str (Str.ofString "not_less_witness") 485), (.ref 123)⟩, ⟨PyData.keyHash P (Str.ofString "__static_attributes__"), (.str (Str.ofString "__static_attributes__") 491), (.ref 124)⟩, ⟨PyData.keyHash P (Str.ofString "__dict__"), (.str (Str.ofString "__dict__") 493), (.ref 127)⟩, ⟨PyData.keyHash P (Str.ofString "__weakref__"), (.str (Str.ofString "__weakref__") 495), (.ref 128)⟩, ⟨PyData.keyHash P (Str.ofString "__doc__"), (.str (Str.ofString "__doc__") 496), .none⟩] 4), #[]⟩
noncomputable def n126_p2 (P : Params) : Obj := ⟨(.type "type"), none, (.cls ⟨(Str.ofString "Whitespace"), [(.type "object")], [(.ref 126), (.type "object")], 125, (Str.ofString "Whitespace"), true, [], [], false, none, false⟩), #[none, none, (some (.str (Str.ofString "Whitespace") 403)), (some (.str (Str.ofString "Whitespace") 411)), (some (.builtin "object.__new__")), (some (.bool true))]⟩
noncomputable def n127_p2 (P : Params) : Obj := ⟨(.type "getset_descriptor"), none, (.fields #[(.str (Str.ofString "__dict__") 492), (.ref 126), (.builtin "function.__dict__"), (.builtin "function.__dict__#set")]), #[]⟩
noncomputable def n128_p2 (P : Params) : Obj := ⟨(.type "getset_descriptor"), none, (.fields #[(.str (Str.ofString "__weakref__") 494), (.ref 126), (.builtin "ExceptionGroup.__weakref__"), .none]), #[]⟩
noncomputable def n134_p3 (P : Params) : Obj := ⟨(.type "tuple"), none, (.seq #[(.int 14 0), (.int 14 0), (.int 4 0), (.int 1 0), (.int 1 0), (.int 9 0), (.int 0 0), (.int 4227896069 0), (.int 939524097 0), (.int 0 0), (.int 0 0), (.int 0 0), (.int 0 0), (.int 0 0), (.int 0 0), (.int 13 0), (.int 11 0), (.int 9 0), (.int 0 0), (.int 4227896069 0), (.int 939524097 0), (.int 0 0), (.int 0 0), (.int 0 0), (.int 0 0), (.int 0 0), (.int 0 0), (.int 1 0)] 0), #[]⟩
noncomputable def n135_p3 (P : Params) : Obj := ⟨(.type "re.Pattern"), none, (.fields #[(.str (Str.ofString "[ \\(\\)<>@,;:\\\\\"/\\[\\]\\?=]") 502), (.int 32 533), (.int 0 0), .none, .none, (.ref 134), (.int 0 0)]), #[]⟩
noncomputable def n139_p3 (P : Params) : Obj := ⟨(.type "tuple"), none, (.seq #[(.int 14 0), (.int 10 0), (.int 4 0), (.int 1 0), (.int 1 0), (.int 22 0), (.int 0 0), (.int 31 0), (.int 16 0), (.int 127 0), (.int 0 0), (.int 13 0), (.int 7 0), (.int 22 0), (.int 0 0), (.int 31 0), (.int 16 0), (.int 127 0), (.int 0 0), (.int 1 0)] 0), #[]⟩
noncomputable def n140_p3 (P : Params) : Obj := ⟨(.type "re.Pattern"), none, (.fields #[(.str (Str.ofString "[\\x00-\\x1F\\x7F]") 536), (.int 32 559), (.int 0 0), .none, .none, (.ref 139), (.int 0 0)]), #[]⟩
noncomputable def n144_p3 (P : Params) : Obj := ⟨(.type "tuple"), none, (.seq #[(.int 14 0), (.int 14 0), (.int 4 0), (.int 1 0), (.int 1 0), (.int 9 0), (.int 4294966783 0), (.int 0 0), (.int 0 0), (.int 2147483648 0), (.int 0 0), (.int 0 0), (.int 0 0), (.int 0 0), (.int 0 0), (.int 13 0), (.int 11 0), (.int 9 0), (.int 4294966783 0), (.int 0 0), (.int 0 0), (.int 2147483648 0), (.int 0 0), (.int 0 0), (.int 0 0), (.int 0 0), (.int 0 0), (.int 1 0)] 0), #[]⟩
noncomputable def n145_p3 (P : Params) : Obj := ⟨(.type "re.Pattern"), none, (.fields #[(.str (Str.ofString "[\\x00-\\x08\\x0A-\\x1F\\x7F]") 562), (.int 32 593), (.int 0 0), .none, .none, (.ref 144), (.int 0 0)]), #[]⟩
noncomputable def n146_p3 (P : Params) : Obj := ⟨(.type "tuple"), none, (.seq #[.none, (.int 1 595)] 0), #[]⟩
noncomputable def n147_p3 (P : Params) : Obj := ⟨(.type "tuple"), none, (.seq #[] 0), #[]⟩
noncomputable def n149_p3 (P : Params) : Obj := ⟨(.type "tuple"), none, (.seq #[(.str (Str.ofString "param") 599), (.str (Str.ofString "value") 600), (.str (Str.ofString "quote") 601)] 0), #[]⟩
noncomputable def n150_p3 (P : Params) : Obj := ⟨(.type "tuple"), none, (.seq #[] 0), #[]⟩
noncomputable def n152_p3 (P : Params) : Obj := ⟨(.type "code"), none, (.fields #[(.str (Str.ofString "_formatparam") 596), (.str (Str.ofString "_formatparam") 597), (.str (Str.ofString "/claim/cut.py") 598), (.int 75 0), (.int 3 0), (.int 0 0), (.int 0 0), (.int 3 0), (.ref 147), (.bool true), (.int 276 0), (.ref 148), .none, (.ref 149), (.ref 150), (.ref 151), (.int 602 0), (.int 75 0), (.str (Str.ofString "/claim/cut.py") 603)]), #[]⟩
noncomputable def n153_p3 (P : Params) : Obj := ⟨(.type "function"), none, (.func ⟨(Str.ofString "_formatparam"), (Str.ofString "_formatparam"), (fdOf (stm 14)).1, (.stmts (fdOf (stm 14)).2.1), (fdOf (stm 14)).2.2, 3, [], (.ref 146), .none, .none, (.str (Str.ofString "cpy313.wsgiref.headers") 499), none, (.ref 152), .none, 0⟩), #[]⟩
noncomputable def n161_p4 (P : Params) : Obj := ⟨(.type "tuple"), none, (.seq #[.none] 0), #[]⟩
noncomputable def n162_p4 (P : Params) : Obj := ⟨(.type "tuple"), none, (.seq #[] 0), #[]⟩
noncomputable def n164_p4 (P : Params) : Obj := ⟨(.type "tuple"), none, (.seq #[(.str (Str.ofString "self") 620), (.str (Str.ofString "headers") 621), (.str (Str.ofString "k") 622), (.str (Str.ofString "v") 623)] 0), #[]⟩
noncomputable def n165_p4 (P : Params) : Obj := ⟨(.type "tuple"), none, (.seq #[] 0), #[]⟩
noncomputable def n167_p4 (P : Params) : Obj := ⟨(.type "code"), none, (.fields #[(.str (Str.ofString "__init__") 617), (.str (Str.ofString "Headers.__init__") 618), (.str (Str.ofString "/claim/cut.py") 619), (.int 86 0), (.int 2 0), (.int 0 0), (.int 0 0), (.int 3 0), (.ref 162), (.bool true), (.int 276 0), (.ref 163), .none, (.ref 164), (.ref 165), (.ref 166), (.int 624 0), (.int 86 0), (.str (Str.ofString "/claim/cut.py") 625)]), #[]⟩
noncomputable def n168_p4 (P : Params) : Obj := ⟨(.type "function"), none, (.func ⟨(Str.ofString "__init__"), (Str.ofString "Headers.__init__"), (fdOf (mth 15 0)).1, (.stmts (fdOf (mth 15 0)).2.1), (fdOf (mth 15 0)).2.2, 3, [], (.ref 161), .none, .none, (.str (Str.ofString "cpy313.wsgiref.headers") 499), none, (.ref 167), .none, 0⟩), #[]⟩
noncomputable def n169_p4 (P : Params) : Obj := ⟨(.type "tuple"), none, (.seq #[] 0), #[]⟩
noncomputable def n171_p4 (P : Params) : Obj := ⟨(.type "tuple"), none, (.seq #[(.str (Str.ofString "self") 630), (.str (Str.ofString "value") 631), (.str (Str.ofString "name") 632), (.str (Str.ofString "regex") 633)] 0), #[]⟩
noncomputable def n172_p4 (P : Params) : Obj := ⟨(.type "tuple"), none, (.seq #[] 0), #[]⟩
noncomputable def n174_p4 (P : Params) : Obj := ⟨(.type "code"), none, (.fields #[(.str (Str.ofString "_convert_string_type") 627), (.str (Str.ofString "Headers._convert_string_type") 628), (.str (Str.ofString "/claim/cut.py") 629), (.int 96 0), (.int 2 0), (.int 0 0), (.int 1 0), (.int 3 0), (.ref 169), (.bool true), (.int 276 0), (.ref 170), .none, (.ref 171), (.ref 172), (.ref 173), (.int 634 0), (.int 96 0), (.str (Str.ofString "/claim/cut.py") 635)]), #[]⟩
noncomputable def n175_p4 (P : Params) : Obj := ⟨(.type "function"), none, (.func ⟨(Str.ofString "_convert_string_type"), (Str.ofString "Headers._convert_string_type"), (fdOf (mth 15 1)).1, (.stmts (fdOf (mth 15 1)).2.1), (fdOf (mth 15 1)).2.2, 3, [], .none, .none, .none, (.str (Str.ofString "cpy313.wsgiref.headers") 499), none, (.ref 174), .none, 0⟩), #[]⟩
noncomputable def n176_p4 (P : Params) : Obj := ⟨(.type "tuple"), none, (.seq #[] 0), #[]⟩
noncomputable def n178_p4 (P : Params) : Obj := ⟨(.type "tuple"), none, (.seq #[(.str (Str.ofString "self") 640)] 0), #[]⟩
noncomputable def n179_p4 (P : Params) : Obj := ⟨(.type "tuple"), none, (.seq #[] 0), #[]⟩
noncomputable def n181_p4 (P : Params) : Obj := ⟨(.type "code"), none, (.fields #[(.str (Str.ofString "__len__") 637), (.str (Str.ofString "Headers.__len__") 638), (.str (Str.ofString "/claim/cut.py") 639), (.int 104 0), (.int 1 0), (.int 0 0), (.int 0 0), (.int 3 0), (.ref 176), (.bool true), (.int 276 0), (.ref 177), .none, (.ref 178), (.ref 179), (.ref 180), (.int 641 0), (.int 104 0), (.str (Str.ofString "/claim/cut.py") 642)]), #[]⟩
noncomputable def n182_p4 (P : Params) : Obj := ⟨(.type "function"), none, (.func ⟨(Str.ofString "__len__"), (Str.ofString "Headers.__len__"), (fdOf (mth 15 2)).1, (.stmts (fdOf (mth 15 2)).2.1), (fdOf (mth 15 2)).2.2, 3, [], .none, .none, .none, (.str (Str.ofString "cpy313.wsgiref.headers") 499), none, (.ref 181), .none, 0⟩), #[]⟩
noncomputable def n183_p4 (P : Params) : Obj := ⟨(.type "tuple"), none, (.seq #[] 0), #[]⟩
noncomputable def n185_p4 (P : Params) : Obj := ⟨(.type "tuple"), none, (.seq #[(.str (Str.ofString "self") 647), (.str (Str.ofString "name") 648), (.str (Str.ofString "val") 649)] 0), #[]⟩
noncomputable def n186_p4 (P : Params) : Obj := ⟨(.type "tuple"), none, (.seq #[] 0), #[]⟩
noncomputable def n188_p4 (P : Params) : Obj := ⟨(.type "code"), none, (.fields #[(.str (Str.ofString "__setitem__") 644), (.str (Str.ofString "Headers.__setitem__") 645), (.str (Str.ofString "/claim/cut.py") 646), (.int 107 0), (.int 3 0), (.int 0 0), (.int 0 0), (.int 3 0), (.ref 183), (.bool true), (.int 276 0), (.ref 184), .none, (.ref 185), (.ref 186), (.ref 187), (.int 650 0), (.int 107 0), (.str (Str.ofString "/claim/cut.py") 651)]), #[]⟩
noncomputable def n189_p4 (P : Params) : Obj := ⟨(.type "function"), none, (.func ⟨(Str.ofString "__setitem__"), (Str.ofString "Headers.__setitem__"), (fdOf (mth 15 3)).1, (.stmts (fdOf (mth 15 3)).2.1), (fdOf (mth 15 3)).2.2, 3, [], .none, .none, .none, (.str (Str.ofString "cpy313.wsgiref.headers") 499), none, (.ref 188), .none, 0⟩), #[]⟩
noncomputable def n190_p4 (P : Params) : Obj := ⟨(.type "tuple"), none, (.seq #[] 0), #[]⟩
noncomputable def n193_p4 (P : Params) : Obj := ⟨(.type "code"), none, (.fields #[(.str (Str.ofString "__delitem__") 653), (.str (Str.ofString "Headers.__delitem__") 654), (.str (Str.ofString "/claim/cut.py") 655), (.int 111 0), (.int 2 0), (.int 0 0), (.int 0 0), (.int 3 0), (.ref 190), (.bool true), (.int 276 0), (.ref 191), .none, .none, .none, (.ref 192), (.int 656 0), (.int 111 0), (.str (Str.ofString "/claim/cut.py") 657)]), #[]⟩
noncomputable def n194_p4 (P : Params) : Obj := ⟨(.type "function"), none, (.func ⟨(Str.ofString "__delitem__"), (Str.ofString "Headers.__delitem__"), (fdOf (mth 15 4)).1, (.stmts (fdOf (mth 15 4)).2.1), (fdOf (mth 15 4)).2.2, 3, [], .none, .none, .none, (.str (Str.ofString "cpy313.wsgiref.headers") 499), none, (.ref 193), .none, 0⟩), #[]⟩
noncomputable def n195_p4 (P : Params) : Obj := ⟨(.type "tuple"), none, (.seq #[] 0), #[]⟩
noncomputable def n197_p4 (P : Params) : Obj := ⟨(.type "tuple"), none, (.seq #[(.str (Str.ofString "self") 662), (.str (Str.ofString "name") 663)] 0), #[]⟩
noncomputable def n198_p4 (P : Params) : Obj := ⟨(.type "tuple"), none, (.seq #[] 0), #[]⟩
noncomputable def n200_p4 (P : Params) : Obj := ⟨(.type "code"), none, (.fields #[(.str (Str.ofString "__getitem__") 659), (.str (Str.ofString "Headers.__getitem__") 660), (.str (Str.ofString "/claim/cut.py") 661), (.int 115 0), (.int 2 0), (.int 0 0), (.int 0 0), (.int 3 0), (.ref 195), (.bool true), (.int 276 0), (.ref 196), .none, (.ref 197), (.ref 198), (.ref 199), (.int 664 0), (.int 115 0), (.str (Str.ofString "/claim/cut.py") 665)]), #[]⟩
noncomputable def n201_p4 (P : Params) : Obj := ⟨(.type "function"), none, (.func ⟨(Str.ofString "__getitem__"), (Str.ofString "Headers.__getitem__"), (fdOf (mth 15 5)).1, (.stmts (fdOf (mth 15 5)).2.1), (fdOf (mth 15 5)).2.2, 3, [], .none, .none, .none, (.str (Str.ofString "cpy313.wsgiref.headers") 499), none, (.ref 200), .none, 0⟩), #[]⟩
noncomputable def n202_p4 (P : Params) : Obj := ⟨(.type "tuple"), none, (.seq #[] 0), #[]⟩
noncomputable def n204_p4 (P : Params) : Obj := ⟨(.type "tuple"), none, (.seq #[(.str (Str.ofString "self") 670), (.str (Str.ofString "name") 671)] 0), #[]⟩
noncomputable def n205_p4 (P : Params) : Obj := ⟨(.type "tuple"), none, (.seq #[] 0), #[]⟩
noncomputable def n207_p4 (P : Params) : Obj := ⟨(.type "code"), none, (.fields #[(.str (Str.ofString "__contains__") 667), (.str (Str.ofString "Headers.__contains__") 668), (.str (Str.ofString "/claim/cut.py") 669), (.int 118 0), (.int 2 0), (.int 0 0), (.int 0 0), (.int 3 0), (.ref 202), (.bool true), (.int 276 0), (.ref 203), .none, (.ref 204), (.ref 205), (.ref 206), (.int 672 0), (.int 118 0), (.str (Str.ofString "/claim/cut.py") 673)]), #[]⟩
noncomputable def n208_p4 (P : Params) : Obj := ⟨(.type "function"), none, (.func ⟨(Str.ofString "__contains__"), (Str.ofString "Headers.__contains__"), (fdOf (mth 15 6)).1, (.stmts (fdOf (mth 15 6)).2.1), (fdOf (mth 15 6)).2.2, 3, [], .none, .none, .none, (.str (Str.ofString "cpy313.wsgiref.headers") 499), none, (.ref 207), .none, 0⟩), #[]⟩
noncomputable def n209_p4 (P : Params) : Obj := ⟨(.type "tuple"), none, (.seq #[] 0), #[]⟩
noncomputable def n211_p4 (P : Params) : Obj := ⟨(.type "tuple"), none, (.seq #[(.str (Str.ofString "self") 678), (.str (Str.ofString "name") 679)] 0), #[]⟩
noncomputable def n212_p4 (P : Params) : Obj := ⟨(.type "tuple"), none, (.seq #[] 0), #[]⟩
noncomputable def n214_p4 (P : Params) : Obj := ⟨(.type "code"), none, (.fields #[(.str (Str.ofString "get_all") 675), (.str (Str.ofString "Headers.get_all") 676), (.str (Str.ofString "/claim/cut.py") 677), (.int 121 0), (.int 2 0), (.int 0 0), (.int 0 0), (.int 3 0), (.ref 209), (.bool true), (.int 276 0), (.ref 210), .none, (.ref 211), (.ref 212), (.ref 213), (.int 680 0), (.int 121 0), (.str (Str.ofString "/claim/cut.py") 681)]), #[]⟩
noncomputable def n215_p4 (P : Params) : Obj := ⟨(.type "function"), none, (.func ⟨(Str.ofString "get_all"), (Str.ofString "Headers.get_all"), (fdOf (mth 15 7)).1, (.stmts (fdOf (mth 15 7)).2.1), (fdOf (mth 15 7)).2.2, 3, [], .none, .none, .none, (.str (Str.ofString "cpy313.wsgiref.headers") 499), none, (.ref 214), .none, 0⟩), #[]⟩
noncomputable def n216_p4 (P : Params) : Obj := ⟨(.type "tuple"), none, (.seq #[.none] 0), #[]⟩
noncomputable def n217_p4 (P : Params) : Obj := ⟨(.type "tuple"), none, (.seq #[] 0), #[]⟩
noncomputable def n219_p4 (P : Params) : Obj := ⟨(.type "tuple"), none, (.seq #[(.str (Str.ofString "self") 686), (.str (Str.ofString "name") 687), (.str (Str.ofString "default") 688), (.str (Str.ofString "k") 689), (.str (Str.ofString "v") 690)] 0), #[]⟩
noncomputable def n220_p4 (P : Params) : Obj := ⟨(.type "tuple"), none, (.seq #[] 0), #[]⟩
noncomputable def n222_p4 (P : Params) : Obj := ⟨(.type "code"), none, (.fields #[(.str (Str.ofString "get") 683), (.str (Str.ofString "Headers.get") 684), (.str (Str.ofString "/claim/cut.py") 685), (.int 124 0), (.int 3 0), (.int 0 0), (.int 0 0), (.int 3 0), (.ref 217), (.bool true), (.int 276 0), (.ref 218), .none, (.ref 219), (.ref 220), (.ref 221), (.int 691 0), (.int 124 0), (.str (Str.ofString "/claim/cut.py") 692)]), #[]⟩
noncomputable def n223_p4 (P : Params) : Obj := ⟨(.type "function"), none, (.func ⟨(Str.ofString "get"), (Str.ofString "Headers.get"), (fdOf (mth 15 8)).1, (.stmts (fdOf (mth 15 8)).2.1), (fdOf (mth 15 8)).2.2, 3, [], (.ref 216), .none, .none, (.str (Str.ofString "cpy313.wsgiref.headers") 499), none, (.ref 222), .none, 0⟩), #[]⟩
noncomputable def n224_p4 (P : Params) : Obj := ⟨(.type "tuple"), none, (.seq #[] 0), #[]⟩
noncomputable def n227_p4 (P : Params) : Obj := ⟨(.type "code"), none, (.fields #[(.str (Str.ofString "keys") 694), (.str (Str.ofString "Headers.keys") 695), (.str (Str.ofString "/claim/cut.py") 696), (.int 131 0), (.int 1 0), (.int 0 0), (.int 0 0), (.int 3 0), (.ref 224), (.bool true), (.int 276 0), (.ref 225), .none, .none, .none, (.ref 226), (.int 697 0), (.int 131 0), (.str (Str.ofString "/claim/cut.py") 698)]), #[]⟩
noncomputable def n228_p4 (P : Params) : Obj := ⟨(.type "function"), none, (.func ⟨(Str.ofString "keys"), (Str.ofString "Headers.keys"), (fdOf (mth 15 9)).1, (.stmts (fdOf (mth 15 9)).2.1), (fdOf (mth 15 9)).2.2, 3, [], .none, .none, .none, (.str (Str.ofString "cpy313.wsgiref.headers") 499), none, (.ref 227), .none, 0⟩), #[]⟩
noncomputable def n229_p4 (P : Params) : Obj := ⟨(.type "tuple"), none, (.seq #[] 0), #[]⟩
noncomputable def n232_p4 (P : Params) : Obj := ⟨(.type "code"), none, (.fields #[(.str (Str.ofString "values") 700), (.str (Str.ofString "Headers.values") 701), (.str (Str.ofString "/claim/cut.py") 702), (.int 134 0), (.int 1 0), (.int 0 0), (.int 0 0), (.int 3 0), (.ref 229), (.bool true), (.int 276 0), (.ref 230), .none, .none, .none, (.ref 231), (.int 703 0), (.int 134 0), (.str (Str.ofString "/claim/cut.py") 704)]), #[]⟩
noncomputable def n233_p4 (P : Params) : Obj := ⟨(.type "function"), none, (.func ⟨(Str.ofString "values"), (Str.ofString "Headers.values"), (fdOf (mth 15 10)).1, (.stmts (fdOf (mth 15 10)).2.1), (fdOf (mth 15 10)).2.2, 3, [], .none, .none, .none, (.str (Str.ofString "cpy313.wsgiref.headers") 499), none, (.ref 232), .none, 0⟩), #[]⟩
noncomputable def n234_p4 (P : Params) : Obj := ⟨(.type "tuple"), none, (.seq #[] 0), #[]⟩
noncomputable def n236_p4 (P : Params) : Obj := ⟨(.type "tuple"), none, (.seq #[(.str (Str.ofString "self") 709)] 0), #[]⟩
noncomputable def n237_p4 (P : Params) : Obj := ⟨(.type "tuple"), none, (.seq #[] 0), #[]⟩
noncomputable def n239_p4 (P : Params) : Obj := ⟨(.type "code"), none, (.fields #[(.str (Str.ofString "items") 706), (.str (Str.ofString "Headers.items") 707), (.str (Str.ofString "/claim/cut.py") 708), (.int 137 0), (.int 1 0), (.int 0 0), (.int 0 0), (.int 3 0), (.ref 234), (.bool true), (.int 276 0), (.ref 235), .none, (.ref 236), (.ref 237), (.ref 238), (.int 710 0), (.int 137 0), (.str (Str.ofString "/claim/cut.py") 711)]), #[]⟩
noncomputable def n240_p4 (P : Params) : Obj := ⟨(.type "function"), none, (.func ⟨(Str.ofString "items"), (Str.ofString "Headers.items"), (fdOf (mth 15 11)).1, (.stmts (fdOf (mth 15 11)).2.1), (fdOf (mth 15 11)).2.2, 3, [], .none, .none, .none, (.str (Str.ofString "cpy313.wsgiref.headers") 499), none, (.ref 239), .none, 0⟩), #[]⟩
noncomputable def n241_p4 (P : Params) : Obj := ⟨(.type "tuple"), none, (.seq #[] 0), #[]⟩
noncomputable def n243_p4 (P : Params) : Obj := ⟨(.type "tuple"), none, (.seq #[(.str (Str.ofString "self") 716)] 0), #[]⟩
noncomputable def n244_p4 (P : Params) : Obj := ⟨(.type "tuple"), none, (.seq #[] 0), #[]⟩
noncomputable def n246_p4 (P : Params) : Obj := ⟨(.type "code"), none, (.fields #[(.str (Str.ofString "__repr__") 713), (.str (Str.ofString "Headers.__repr__") 714), (.str (Str.ofString "/claim/cut.py") 715), (.int 140 0), (.int 1 0), (.int 0 0), (.int 0 0), (.int 3 0), (.ref 241), (.bool true), (.int 276 0), (.ref 242), .none, (.ref 243), (.ref 244), (.ref 245), (.int 717 0), (.int 140 0), (.str (Str.ofString "/claim/cut.py") 718)]), #[]⟩
noncomputable def n247_p4 (P : Params) : Obj := ⟨(.type "function"), none, (.func ⟨(Str.ofString "__repr__"), (Str.ofString "Headers.__repr__"), (fdOf (mth 15 12)).1, (.stmts (fdOf (mth 15 12)).2.1), (fdOf (mth 15 12)).2.2, 3, [], .none, .none, .none, (.str (Str.ofString "cpy313.wsgiref.headers") 499), none, (.ref 246), .none, 0⟩), #[]⟩
noncomputable def n248_p4 (P : Params) : Obj := ⟨(.type "tuple"), none, (.seq #[] 0), #[]⟩
noncomputable def n251_p4 (P : Params) : Obj := ⟨(.type "code"), none, (.fields #[(.str (Str.ofString "__str__") 720), (.str (Str.ofString "Headers.__str__") 721), (.str (Str.ofString "/claim/cut.py") 722), (.int 143 0), (.int 1 0), (.int 0 0), (.int 0 0), (.int 3 0), (.ref 248), (.bool true), (.int 276 0), (.ref 249), .none, .none, .none, (.ref 250), (.int 723 0), (.int 143 0), (.str (Str.ofString "/claim/cut.py") 724)]), #[]⟩
noncomputable def n252_p4 (P : Params) : Obj := ⟨(.type "function"), none, (.func ⟨(Str.ofString "__str__"), (Str.ofString "Headers.__str__"), (fdOf (mth 15 13)).1, (.stmts (fdOf (mth 15 13)).2.1), (fdOf (mth 15 13)).2.2, 3, [], .none, .none, .none, (.str (Str.ofString "cpy313.wsgiref.headers") 499), none, (.ref 251), .none, 0⟩), #[]⟩
noncomputable def n253_p4 (P : Params) : Obj := ⟨(.type "tuple"), none, (.seq #[] 0), #[]⟩
noncomputable def n255_p4 (P : Params) : Obj := ⟨(.type "tuple"), none, (.seq #[(.str (Str.ofString "self") 729)] 0), #[]⟩
noncomputable def n256_p4 (P : Params) : Obj := ⟨(.type "tuple"), none, (.seq #[] 0), #[]⟩
noncomputable def n258_p4 (P : Params) : Obj := ⟨(.type "code"), none, (.fields #[(.str (Str.ofString "__bytes__") 726), (.str (Str.ofString "Headers.__bytes__") 727), (.str (Str.ofString "/claim/cut.py") 728), (.int 146 0), (.int 1 0), (.int 0 0), (.int 0 0), (.int 3 0), (.ref 253), (.bool true), (.int 276 0), (.ref 254), .none, (.ref 255), (.ref 256), (.ref 257), (.int 730 0), (.int 146 0), (.str (Str.ofString "/claim/cut.py") 731)]), #[]⟩
noncomputable def n259_p4 (P : Params) : Obj := ⟨(.type "function"), none, (.func ⟨(Str.ofString "__bytes__"), (Str.ofString "Headers.__bytes__"), (fdOf (mth 15 14)).1, (.stmts (fdOf (mth 15 14)).2.1), (fdOf (mth 15 14)).2.2, 3, [], .none, .none, .none, (.str (Str.ofString "cpy313.wsgiref.headers") 499), none, (.ref 258), .none, 0⟩), #[]⟩
noncomputable def n260_p4 (P : Params) : Obj := ⟨(.type "tuple"), none, (.seq #[] 0), #[]⟩
noncomputable def n262_p4 (P : Params) : Obj := ⟨(.type "tuple"), none, (.seq #[(.str (Str.ofString "self") 736), (.str (Str.ofString "name") 737), (.str (Str.ofString "value") 738)] 0), #[]⟩
noncomputable def n263_p4 (P : Params) : Obj := ⟨(.type "tuple"), none, (.seq #[] 0), #[]⟩
noncomputable def n265_p4 (P : Params) : Obj := ⟨(.type "code"), none, (.fields #[(.str (Str.ofString "setdefault") 733), (.str (Str.ofString "Headers.setdefault") 734), (.str (Str.ofString "/claim/cut.py") 735), (.int 149 0), (.int 3 0), (.int 0 0), (.int 0 0), (.int 3 0), (.ref 260), (.bool true), (.int 276 0), (.ref 261), .none, (.ref 262), (.ref 263), (.ref 264), (.int 739 0), (.int 149 0), (.str (Str.ofString "/claim/cut.py") 740)]), #[]⟩
noncomputable def n266_p4 (P : Params) : Obj := ⟨(.type "function"), none, (.func ⟨(Str.ofString "setdefault"), (Str.ofString "Headers.setdefault"), (fdOf (mth 15 15)).1, (.stmts (fdOf (mth 15 15)).2.1), (fdOf (mth 15 15)).2.2, 3, [], .none, .none, .none, (.str (Str.ofString "cpy313.wsgiref.headers") 499), none, (.ref 265), .none, 0⟩), #[]⟩
noncomputable def n267_p4 (P : Params) : Obj := ⟨(.type "tuple"), none, (.seq #[] 0), #[]⟩
noncomputable def n269_p4 (P : Params) : Obj := ⟨(.type "tuple"), none, (.seq #[(.str (Str.ofString "self") 745), (.str (Str.ofString "_name") 746), (.str (Str.ofString "_value") 747), (.str (Str.ofString "_params") 748), (.str (Str.ofString "parts") 749), (.str (Str.ofString "k") 750), (.str (Str.ofString "v") 751)] 0), #[]⟩
noncomputable def n270_p4 (P : Params) : Obj := ⟨(.type "tuple"), none, (.seq #[] 0), #[]⟩
noncomputable def n272_p4 (P : Params) : Obj := ⟨(.type "code"), none, (.fields #[(.str (Str.ofString "add_header") 742), (.str (Str.ofString "Headers.add_header") 743), (.str (Str.ofString "/claim/cut.py") 744), (.int 152 0), (.int 3 0), (.int 0 0), (.int 0 0), (.int 11 0), (.ref 267), (.bool true), (.int 276 0), (.ref 268), .none, (.ref 269), (.ref 270), (.ref 271), (.int 752 0), (.int 152 0), (.str (Str.ofString "/claim/cut.py") 753)]), #[]⟩
noncomputable def n273_p4 (P : Params) : Obj := ⟨(.type "function"), none, (.func ⟨(Str.ofString "add_header"), (Str.ofString "Headers.add_header"), (fdOf (mth 15 16)).1, (.stmts (fdOf (mth 15 16)).2.1), (fdOf (mth 15 16)).2.2, 3, [], .none, .none, .none, (.str (Str.ofString "cpy313.wsgiref.headers") 499), none, (.ref 272), .none, 0⟩), #[]⟩
noncomputable def n274_p4 (P : Params) : Obj := ⟨(.type "tuple"), none, (.seq #[(.str (Str.ofString "_headers") 755)] 0), #[]⟩
noncomputable def n275_p4 (P : Params) : Obj := ⟨(.type "dict"), none, (.dict #[⟨PyData.keyHash P (Str.ofString "__module__"), (.str (Str.ofString "__module__") 612), (.str (Str.ofString "cpy313.wsgiref.headers") 499)⟩, ⟨PyData.keyHash P (Str.ofString "__firstlineno__"), (.str (Str.ofString "__firstlineno__") 616), (.int 84 615)⟩, ⟨PyData.keyHash P (Str.ofString "__init__"), (.str (Str.ofString "__init__") 626), (.ref 168)⟩, ⟨PyData.keyHash P (Str.ofString "_convert_string_type"), (.str (Str.ofString "_convert_string_type") 636), (.ref 175)⟩, ⟨PyData.keyHash P (Str.ofString "__len__"), (.str (Str.ofString "__len__") 643), (.ref 182)⟩, ⟨PyData.keyHash P (Str.ofString "__setitem__"), (.str (Str.ofString "__setitem__") 652), (.ref 189)⟩, ⟨PyData.keyHash P (Str.ofString "__delitem__"), (.str (Str.ofString "__delitem__") 658), (.ref 194)⟩, ⟨PyData.keyHash P (Str.ofString "__getitem__"), (.str (Str.ofString "__getitem__") 666), (.ref 201)⟩, ⟨PyData.keyHash P (Str.ofString "__contains__"), (.str (Str.ofString "__contains__") 674), (.ref 208)⟩, ⟨PyData.keyHash P (Str.ofString "get_all"), (.str (Str.ofString "get_all") 682), (.ref 215)⟩, ⟨PyData.keyHash P (Str.ofString "get"), (.str (Str.ofString "get") 693), (.ref 223)⟩, ⟨PyData.keyHash P (Str.ofString "keys"), (.str (Str.ofString "keys") 699), (.ref 228)⟩, ⟨PyData.keyHash P (Str.ofString "values"), (.str (Str.ofString "values") 705), (.ref 233)⟩, ⟨PyData.keyHash P (Str.ofString "items"), (.str (Str.ofString "items") 712), (.ref 240)⟩, ⟨PyData.keyHash P (Str.ofString "__repr__"), (.str (Str.ofString "__repr__") 719), (.ref 247)⟩, ⟨PyData.keyHash P (Str.ofString "__str__"), (.str (Str.ofString "__str__") 725), (.ref 252)⟩, ⟨PyData.keyHash P (Str.ofString "__bytes__"), (.str (Str.ofString "__bytes__") 732), (.ref 259)⟩, ⟨PyData.keyHash P (Str.ofString "setdefault"), (.str (Str.ofString "setdefault") 741), (.ref 266)⟩, ⟨PyData.keyHash P (Str.ofString "add_header"), (.str (Str.ofString "add_header") 754), (.ref 273)⟩, ⟨PyData.keyHash P (Str.ofString "__static_attributes__"), (.str (Str.ofString "__static_attributes__") 756), (.ref 274)⟩, ⟨PyData.keyHash P (Str.ofString "__dict__"), (.str (Str.ofString "__dict__") 758), (.ref 277)⟩, ⟨PyData.keyHash P (Str.ofString "__weakref__"), (.str (Str.ofString "__weakref__") 760), (.ref 278)⟩, ⟨PyData.keyHash P (Str.ofString "__doc__"), (.str (Str.ofString "__doc__") 761), .none⟩] 4), #[]⟩
noncomputable def n276_p4 (P : Params) : Obj := ⟨(.type "type"), none, (.cls ⟨(Str.ofString "Headers"), [(.type "object")], [(.ref 276), (.type "object")], 275, (Str.ofString "Headers"), true, [], [], false, none, false⟩), #[none, none, (some (.str (Str.ofString "Headers") 605)), (some (.str (Str.ofString "Headers") 613)), (some (.builtin "object.__new__")), (some (.bool true))]⟩
noncomputable def n277_p4 (P : Params) : Obj := ⟨(.type "getset_descriptor"), none, (.fields #[(.str (Str.ofString "__dict__") 757), (.ref 276), (.builtin "function.__dict__"), (.builtin "function.__dict__#set")]), #[]⟩
noncomputable def n278_p4 (P : Params) : Obj := ⟨(.type "getset_descriptor"), none, (.fields #[(.str (Str.ofString "__weakref__") 759), (.ref 276), (.builtin "ExceptionGroup.__weakref__"), .none]), #[]⟩
noncomputable def n3_p5 (P : Params) : Obj := ⟨(.type "dict"), none, (.dict #[⟨PyData.keyHash P (Str.ofString "__name__"), (.str (Str.ofString "__name__") 165), (.str (Str.ofString "law_sn0070_01") 764)⟩, ⟨PyData.keyHash P (Str.ofString "__doc__"), (.str (Str.ofString "__doc__") 166), .none⟩, ⟨PyData.keyHash P (Str.ofString "__package__"), (.str (Str.ofString "__package__") 167), .none⟩, ⟨PyData.keyHash P (Str.ofString "__loader__"), (.str (Str.ofString "__loader__") 168), (.builtin "__main__.__loader__#opaque")⟩, ⟨PyData.keyHash P (Str.ofString "__spec__"), (.str (Str.ofString "__spec__") 169), .none⟩, ⟨PyData.keyHash P (Str.ofString "__annotations__"), (.str (Str.ofString "__annotations__") 170), (.ref 6)⟩, ⟨PyData.keyHash P (Str.ofString "__builtins__"), (.str (Str.ofString "__builtins__") 171), (.ref 4)⟩, ⟨PyData.keyHash P (Str.ofString "__file__"), (.str (Str.ofString "__file__") 173), (.str (Str.ofString "/claim/cut.py") 172)⟩, ⟨PyData.keyHash P (Str.ofString "__cached__"), (.str (Str.ofString "__cached__") 174), .none⟩, ⟨PyData.keyHash P (Str.ofString "_sre"), (.str (Str.ofString "_sre") 275), (.ref 12)⟩, ⟨PyData.keyHash P (Str.ofString "_wall"), (.str (Str.ofString "_wall") 288), (.ref 38)⟩, ⟨PyData.keyHash P (Str.ofString "COMPILER_FLAG_NAMES"), (.str (Str.ofString "COMPILER_FLAG_NAMES") 321), (.ref 39)⟩, ⟨PyData.keyHash P (Str.ofString "pretty_flags"), (.str (Str.ofString "pretty_flags") 331), (.ref 46)⟩, ⟨PyData.keyHash P (Str.ofString "b1_set"), (.str (Str.ofString "b1_set") 393), (.ref 54)⟩, ⟨PyData.keyHash P (Str.ofString "in_table_b1"), (.str (Str.ofString "in_table_b1") 400), (.ref 64)⟩, ⟨PyData.keyHash P (Str.ofString "Whitespace"), (.str (Str.ofString "Whitespace") 498), (.ref 126)⟩, ⟨PyData.keyHash P (Str.ofString "tspecials"), (.str (Str.ofString "tspecials") 534), (.ref 135)⟩, ⟨PyData.keyHash P (Str.ofString "_name_disallowed_re"), (.str (Str.ofString "_name_disallowed_re") 560), (.ref 140)⟩, ⟨PyData.keyHash P (Str.ofString "_value_disallowed_re"), (.str (Str.ofString "_value_disallowed_re") 594), (.ref 145)⟩, ⟨PyData.keyHash P (Str.ofString "_formatparam"), (.str (Str.ofString "_formatparam") 604), (.ref 153)⟩, ⟨PyData.keyHash P (Str.ofString "Headers"), (.str (Str.ofString "Headers") 763), (.ref 276)⟩, ⟨PyData.keyHash P (Str.ofString "_law_unseen"), (.str (Str.ofString "_law_unseen") 773), (.ref 287)⟩, ⟨PyData.keyHash P (Str.ofString "_law_beside"), (.str (Str.ofString "_law_beside") 780), (.ref 294)⟩, ⟨PyData.keyHash P (Str.ofString "_law_clean"), (.str (Str.ofString "_law_clean") 790), (.ref 301)⟩, ⟨PyData.keyHash P (Str.ofString "_law_draw"), (.str (Str.ofString "_law_draw") 796), (.ref 306)⟩, ⟨PyData.keyHash P (Str.ofString "_law_name"), (.str (Str.ofString "_law_name") 804), (.ref 313)⟩, ⟨PyData.keyHash P (Str.ofString "_law_flag"), (.str (Str.ofString "_law_flag") 811), (.ref 320)⟩, ⟨PyData.keyHash P (Str.ofString "_law_steps"), (.str (Str.ofString "_law_steps") 822), (.ref 327)⟩, ⟨PyData.keyHash P (Str.ofString "_law_file"), (.str (Str.ofString "_law_file") 836), (.ref 334)⟩, ⟨PyData.keyHash P (Str.ofString "law"), (.str (Str.ofString "law") 842), (.ref 339)⟩] 30), #[]⟩
noncomputable def n281_p5 (P : Params) : Obj := ⟨(.type "tuple"), none, (.seq #[] 0), #[]⟩
noncomputable def n283_p5 (P : Params) : Obj := ⟨(.type "tuple"), none, (.seq #[(.str (Str.ofString "number") 769), (.str (Str.ofString "k") 770)] 0), #[]⟩
noncomputable def n284_p5 (P : Params) : Obj := ⟨(.type "tuple"), none, (.seq #[] 0), #[]⟩
noncomputable def n286_p5 (P : Params) : Obj := ⟨(.type "code"), none, (.fields #[(.str (Str.ofString "_law_unseen") 766), (.str (Str.ofString "_law_unseen") 767), (.str (Str.ofString "/claim/cut.py") 768), (.int 166 0), (.int 1 0), (.int 0 0), (.int 0 0), (.int 3 0), (.ref 281), (.bool true), (.int 276 0), (.ref 282), .none, (.ref 283), (.ref 284), (.ref 285), (.int 771 0), (.int 166 0), (.str (Str.ofString "/claim/cut.py") 772)]), #[]⟩
noncomputable def n287_p5 (P : Params) : Obj := ⟨(.type "function"), none, (.func ⟨(Str.ofString "_law_unseen"), (Str.ofString "_law_unseen"), (fdOf (stm 17)).1, (.stmts (fdOf (stm 17)).2.1), (fdOf (stm 17)).2.2, 3, [], .none, .none, .none, (.str (Str.ofString "law_sn0070_01") 764), none, (.ref 286), .none, 0⟩), #[]⟩
noncomputable def n288_p5 (P : Params) : Obj := ⟨(.type "tuple"), none, (.seq #[] 0), #[]⟩
noncomputable def n290_p5 (P : Params) : Obj := ⟨(.type "tuple"), none, (.seq #[(.str (Str.ofString "number") 777)] 0), #[]⟩
noncomputable def n291_p5 (P : Params) : Obj := ⟨(.type "tuple"), none, (.seq #[] 0), #[]⟩
noncomputable def n293_p5 (P : Params) : Obj := ⟨(.type "code"), none, (.fields #[(.str (Str.ofString "_law_beside") 774), (.str (Str.ofString "_law_beside") 775), (.str (Str.ofString "/claim/cut.py") 776), (.int 171 0), (.int 1 0), (.int 0 0), (.int 0 0), (.int 3 0), (.ref 288), (.bool true), (.int 276 0), (.ref 289), .none, (.ref 290), (.ref 291), (.ref 292), (.int 778 0), (.int 171 0), (.str (Str.ofString "/claim/cut.py") 779)]), #[]⟩
noncomputable def n294_p5 (P : Params) : Obj := ⟨(.type "function"), none, (.func ⟨(Str.ofString "_law_beside"), (Str.ofString "_law_beside"), (fdOf (stm 18)).1, (.stmts (fdOf (stm 18)).2.1), (fdOf (stm 18)).2.2, 3, [], .none, .none, .none, (.str (Str.ofString "law_sn0070_01") 764), none, (.ref 293), .none, 0⟩), #[]⟩
noncomputable def n295_p5 (P : Params) : Obj := ⟨(.type "tuple"), none, (.seq #[] 0), #[]⟩
noncomputable def n297_p5 (P : Params) : Obj := ⟨(.type "tuple"), none, (.seq #[(.str (Str.ofString "text") 784), (.str (Str.ofString "left") 785), (.str (Str.ofString "sign") 786), (.str (Str.ofString "told") 787)] 0), #[]⟩
noncomputable def n298_p5 (P : Params) : Obj := ⟨(.type "tuple"), none, (.seq #[] 0), #[]⟩
noncomputable def n300_p5 (P : Params) : Obj := ⟨(.type "code"), none, (.fields #[(.str (Str.ofString "_law_clean") 781), (.str (Str.ofString "_law_clean") 782), (.str (Str.ofString "/claim/cut.py") 783), (.int 173 0), (.int 1 0), (.int 0 0), (.int 0 0), (.int 3 0), (.ref 295), (.bool true), (.int 276 0), (.ref 296), .none, (.ref 297), (.ref 298), (.ref 299), (.int 788 0), (.int 173 0), (.str (Str.ofString "/claim/cut.py") 789)]), #[]⟩
noncomputable def n301_p5 (P : Params) : Obj := ⟨(.type "function"), none, (.func ⟨(Str.ofString "_law_clean"), (Str.ofString "_law_clean"), (fdOf (stm 19)).1, (.stmts (fdOf (stm 19)).2.1), (fdOf (stm 19)).2.2, 3, [], .none, .none, .none, (.str (Str.ofString "law_sn0070_01") 764), none, (.ref 300), .none, 0⟩), #[]⟩
noncomputable def n302_p5 (P : Params) : Obj := ⟨(.type "tuple"), none, (.seq #[] 0), #[]⟩
noncomputable def n305_p5 (P : Params) : Obj := ⟨(.type "code"), none, (.fields #[(.str (Str.ofString "_law_draw") 791), (.str (Str.ofString "_law_draw") 792), (.str (Str.ofString "/claim/cut.py") 793), (.int 179 0), (.int 1 0), (.int 0 0), (.int 0 0), (.int 3 0), (.ref 302), (.bool true), (.int 276 0), (.ref 303), .none, .none, .none, (.ref 304), (.int 794 0), (.int 179 0), (.str (Str.ofString "/claim/cut.py") 795)]), #[]⟩
noncomputable def n306_p5 (P : Params) : Obj := ⟨(.type "function"), none, (.func ⟨(Str.ofString "_law_draw"), (Str.ofString "_law_draw"), (fdOf (stm 20)).1, (.stmts (fdOf (stm 20)).2.1), (fdOf (stm 20)).2.2, 3, [], .none, .none, .none, (.str (Str.ofString "law_sn0070_01") 764), none, (.ref 305), .none, 0⟩), #[]⟩
noncomputable def n307_p5 (P : Params) : Obj := ⟨(.type "tuple"), none, (.seq #[] 0), #[]⟩
noncomputable def n309_p5 (P : Params) : Obj := ⟨(.type "tuple"), none, (.seq #[(.str (Str.ofString "bit") 800), (.str (Str.ofString "words") 801)] 0), #[]⟩
noncomputable def n310_p5 (P : Params) : Obj := ⟨(.type "tuple"), none, (.seq #[] 0), #[]⟩
noncomputable def n312_p5 (P : Params) : Obj := ⟨(.type "code"), none, (.fields #[(.str (Str.ofString "_law_name") 797), (.str (Str.ofString "_law_name") 798), (.str (Str.ofString "/claim/cut.py") 799), (.int 182 0), (.int 1 0), (.int 0 0), (.int 0 0), (.int 3 0), (.ref 307), (.bool true), (.int 276 0), (.ref 308), .none, (.ref 309), (.ref 310), (.ref 311), (.int 802 0), (.int 182 0), (.str (Str.ofString "/claim/cut.py") 803)]), #[]⟩
noncomputable def n313_p5 (P : Params) : Obj := ⟨(.type "function"), none, (.func ⟨(Str.ofString "_law_name"), (Str.ofString "_law_name"), (fdOf (stm 21)).1, (.stmts (fdOf (stm 21)).2.1), (fdOf (stm 21)).2.2, 3, [], .none, .none, .none, (.str (Str.ofString "law_sn0070_01") 764), none, (.ref 312), .none, 0⟩), #[]⟩
noncomputable def n314_p5 (P : Params) : Obj := ⟨(.type "tuple"), none, (.seq #[] 0), #[]⟩
noncomputable def n316_p5 (P : Params) : Obj := ⟨(.type "tuple"), none, (.seq #[(.str (Str.ofString "bit") 808)] 0), #[]⟩
noncomputable def n317_p5 (P : Params) : Obj := ⟨(.type "tuple"), none, (.seq #[] 0), #[]⟩
noncomputable def n319_p5 (P : Params) : Obj := ⟨(.type "code"), none, (.fields #[(.str (Str.ofString "_law_flag") 805), (.str (Str.ofString "_law_flag") 806), (.str (Str.ofString "/claim/cut.py") 807), (.int 185 0), (.int 1 0), (.int 0 0), (.int 0 0), (.int 3 0), (.ref 314), (.bool true), (.int 276 0), (.ref 315), .none, (.ref 316), (.ref 317), (.ref 318), (.int 809 0), (.int 185 0), (.str (Str.ofString "/claim/cut.py") 810)]), #[]⟩
noncomputable def n320_p5 (P : Params) : Obj := ⟨(.type "function"), none, (.func ⟨(Str.ofString "_law_flag"), (Str.ofString "_law_flag"), (fdOf (stm 22)).1, (.stmts (fdOf (stm 22)).2.1), (fdOf (stm 22)).2.2, 3, [], .none, .none, .none, (.str (Str.ofString "law_sn0070_01") 764), none, (.ref 319), .none, 0⟩), #[]⟩
noncomputable def n321_p5 (P : Params) : Obj := ⟨(.type "tuple"), none, (.seq #[] 0), #[]⟩
noncomputable def n323_p5 (P : Params) : Obj := ⟨(.type "tuple"), none, (.seq #[(.str (Str.ofString "have") 815), (.str (Str.ofString "pool") 816), (.str (Str.ofString "steps") 817), (.str (Str.ofString "number") 818), (.str (Str.ofString "bit") 819)] 0), #[]⟩
noncomputable def n324_p5 (P : Params) : Obj := ⟨(.type "tuple"), none, (.seq #[] 0), #[]⟩
noncomputable def n326_p5 (P : Params) : Obj := ⟨(.type "code"), none, (.fields #[(.str (Str.ofString "_law_steps") 812), (.str (Str.ofString "_law_steps") 813), (.str (Str.ofString "/claim/cut.py") 814), (.int 187 0), (.int 1 0), (.int 0 0), (.int 0 0), (.int 3 0), (.ref 321), (.bool true), (.int 276 0), (.ref 322), .none, (.ref 323), (.ref 324), (.ref 325), (.int 820 0), (.int 187 0), (.str (Str.ofString "/claim/cut.py") 821)]), #[]⟩
noncomputable def n327_p5 (P : Params) : Obj := ⟨(.type "function"), none, (.func ⟨(Str.ofString "_law_steps"), (Str.ofString "_law_steps"), (fdOf (stm 23)).1, (.stmts (fdOf (stm 23)).2.1), (fdOf (stm 23)).2.2, 3, [], .none, .none, .none, (.str (Str.ofString "law_sn0070_01") 764), none, (.ref 326), .none, 0⟩), #[]⟩
noncomputable def n328_p5 (P : Params) : Obj := ⟨(.type "tuple"), none, (.seq #[] 0), #[]⟩
noncomputable def n330_p5 (P : Params) : Obj := ⟨(.type "tuple"), none, (.seq #[(.str (Str.ofString "steps") 826), (.str (Str.ofString "number") 827), (.str (Str.ofString "table") 828), (.str (Str.ofString "bit") 829), (.str (Str.ofString "pile") 830), (.str (Str.ofString "seed") 831), (.str (Str.ofString "cut") 832), (.str (Str.ofString "word") 833)] 0), #[]⟩
noncomputable def n331_p5 (P : Params) : Obj := ⟨(.type "tuple"), none, (.seq #[] 0), #[]⟩
noncomputable def n333_p5 (P : Params) : Obj := ⟨(.type "code"), none, (.fields #[(.str (Str.ofString "_law_file") 823), (.str (Str.ofString "_law_file") 824), (.str (Str.ofString "/claim/cut.py") 825), (.int 194 0), (.int 2 0), (.int 0 0), (.int 0 0), (.int 3 0), (.ref 328), (.bool true), (.int 276 0), (.ref 329), .none, (.ref 330), (.ref 331), (.ref 332), (.int 834 0), (.int 194 0), (.str (Str.ofString "/claim/cut.py") 835)]), #[]⟩
noncomputable def n334_p5 (P : Params) : Obj := ⟨(.type "function"), none, (.func ⟨(Str.ofString "_law_file"), (Str.ofString "_law_file"), (fdOf (stm 24)).1, (.stmts (fdOf (stm 24)).2.1), (fdOf (stm 24)).2.2, 3, [], .none, .none, .none, (.str (Str.ofString "law_sn0070_01") 764), none, (.ref 333), .none, 0⟩), #[]⟩
noncomputable def n335_p5 (P : Params) : Obj := ⟨(.type "tuple"), none, (.seq #[] 0), #[]⟩
noncomputable def n338_p5 (P : Params) : Obj := ⟨(.type "code"), none, (.fields #[(.str (Str.ofString "law") 837), (.str (Str.ofString "law") 838), (.str (Str.ofString "/claim/cut.py") 839), (.int 205 0), (.int 1 0), (.int 0 0), (.int 0 0), (.int 3 0), (.ref 335), (.bool true), (.int 276 0), (.ref 336), .none, .none, .none, (.ref 337), (.int 840 0), (.int 205 0), (.str (Str.ofString "/claim/cut.py") 841)]), #[]⟩
noncomputable def n339_p5 (P : Params) : Obj := ⟨(.type "function"), none, (.func ⟨(Str.ofString "law"), (Str.ofString "law"), (fdOf (stm 25)).1, (.stmts (fdOf (stm 25)).2.1), (fdOf (stm 25)).2.2, 3, [], .none, .none, .none, (.str (Str.ofString "law_sn0070_01") 764), none, (.ref 338), .none, 0⟩), #[]⟩
theorem fd_mk {n : Str} {a : Arguments} {b : List Stmt} {ds r tps ts bd p} {sc : Scope} : fdOf (.FunctionDef n a b ds r tps sc ts bd p) = (a, b, sc) := rfl
theorem mkFn {cls dict slots name qual glob cl dv kv doc pm an cd ct bi} {s : Stmt} {a : Arguments} {b : List Stmt} {sc : Scope} (h : fdOf s = (a, b, sc)) : (⟨cls, dict, .func ⟨name, qual, (fdOf s).1, .stmts (fdOf s).2.1, (fdOf s).2.2, glob, cl, dv, kv, doc, pm, an, cd, ct, bi⟩, slots⟩ : Obj) = ⟨cls, dict, .func ⟨name, qual, a, .stmts b, sc, glob, cl, dv, kv, doc, pm, an, cd, ct, bi⟩, slots⟩ := by rw [h]
noncomputable def x38 (P : Params) : {o : Obj // n38_p0 P = o} := ⟨_, mkFn fd_mk⟩
noncomputable def x46 (P : Params) : {o : Obj // n46_p0 P = o} := ⟨_, mkFn fd_mk⟩
noncomputable def x64 (P : Params) : {o : Obj // n64_p2 P = o} := ⟨_, mkFn fd_mk⟩
noncomputable def x81 (P : Params) : {o : Obj // n81_p2 P = o} := ⟨_, mkFn fd_mk⟩
noncomputable def x88 (P : Params) : {o : Obj // n88_p2 P = o} := ⟨_, mkFn fd_mk⟩
noncomputable def x95 (P : Params) : {o : Obj // n95_p2 P = o} := ⟨_, mkFn fd_mk⟩
noncomputable def x102 (P : Params) : {o : Obj // n102_p2 P = o} := ⟨_, mkFn fd_mk⟩
noncomputable def x109 (P : Params) : {o : Obj // n109_p2 P = o} := ⟨_, mkFn fd_mk⟩
noncomputable def x116 (P : Params) : {o : Obj // n116_p2 P = o} := ⟨_, mkFn fd_mk⟩
noncomputable def x123 (P : Params) : {o : Obj // n123_p2 P = o} := ⟨_, mkFn fd_mk⟩
noncomputable def x153 (P : Params) : {o : Obj // n153_p3 P = o} := ⟨_, mkFn fd_mk⟩
noncomputable def x168 (P : Params) : {o : Obj // n168_p4 P = o} := ⟨_, mkFn fd_mk⟩
noncomputable def x175 (P : Params) : {o : Obj // n175_p4 P = o} := ⟨_, mkFn fd_mk⟩
noncomputable def x182 (P : Params) : {o : Obj // n182_p4 P = o} := ⟨_, mkFn fd_mk⟩
noncomputable def x189 (P : Params) : {o : Obj // n189_p4 P = o} := ⟨_, mkFn fd_mk⟩
noncomputable def x194 (P : Params) : {o : Obj // n194_p4 P = o} := ⟨_, mkFn fd_mk⟩
noncomputable def x201 (P : Params) : {o : Obj // n201_p4 P = o} := ⟨_, mkFn fd_mk⟩
noncomputable def x208 (P : Params) : {o : Obj // n208_p4 P = o} := ⟨_, mkFn fd_mk⟩
noncomputable def x215 (P : Params) : {o : Obj // n215_p4 P = o} := ⟨_, mkFn fd_mk⟩
noncomputable def x223 (P : Params) : {o : Obj // n223_p4 P = o} := ⟨_, mkFn fd_mk⟩
noncomputable def x228 (P : Params) : {o : Obj // n228_p4 P = o} := ⟨_, mkFn fd_mk⟩
noncomputable def x233 (P : Params) : {o : Obj // n233_p4 P = o} := ⟨_, mkFn fd_mk⟩
noncomputable def x240 (P : Params) : {o : Obj // n240_p4 P = o} := ⟨_, mkFn fd_mk⟩
noncomputable def x247 (P : Params) : {o : Obj // n247_p4 P = o} := ⟨_, mkFn fd_mk⟩
noncomputable def x252 (P : Params) : {o : Obj // n252_p4 P = o} := ⟨_, mkFn fd_mk⟩
noncomputable def x259 (P : Params) : {o : Obj // n259_p4 P = o} := ⟨_, mkFn fd_mk⟩
noncomputable def x266 (P : Params) : {o : Obj // n266_p4 P = o} := ⟨_, mkFn fd_mk⟩
noncomputable def x273 (P : Params) : {o : Obj // n273_p4 P = o} := ⟨_, mkFn fd_mk⟩
noncomputable def x287 (P : Params) : {o : Obj // n287_p5 P = o} := ⟨_, mkFn fd_mk⟩
noncomputable def x294 (P : Params) : {o : Obj // n294_p5 P = o} := ⟨_, mkFn fd_mk⟩
noncomputable def x301 (P : Params) : {o : Obj // n301_p5 P = o} := ⟨_, mkFn fd_mk⟩
noncomputable def x306 (P : Params) : {o : Obj // n306_p5 P = o} := ⟨_, mkFn fd_mk⟩
noncomputable def x313 (P : Params) : {o : Obj // n313_p5 P = o} := ⟨_, mkFn fd_mk⟩
noncomputable def x320 (P : Params) : {o : Obj // n320_p5 P = o} := ⟨_, mkFn fd_mk⟩
noncomputable def x327 (P : Params) : {o : Obj // n327_p5 P = o} := ⟨_, mkFn fd_mk⟩
noncomputable def x334 (P : Params) : {o : Obj // n334_p5 P = o} := ⟨_, mkFn fd_mk⟩
noncomputable def x339 (P : Params) : {o : Obj // n339_p5 P = o} := ⟨_, mkFn fd_mk⟩
noncomputable def K (P : Params) : Frag := (nat_lit 2, n2_e P) :: (nat_lit 3, n3_p5 P) :: (nat_lit 32, n32_p0 P) :: (nat_lit 34, n34_p0 P) :: (nat_lit 35, n35_p0 P) :: (nat_lit 37, n37_p0 P) :: (nat_lit 38, (x38 P).1) :: (nat_lit 39, n39_p0 P) :: (nat_lit 40, n40_p0 P) :: (nat_lit 42, n42_p0 P) :: (nat_lit 43, n43_p0 P) :: (nat_lit 45, n45_p0 P) :: (nat_lit 46, (x46 P).1) :: (nat_lit 54, n54_p1 P) :: (nat_lit 58, n58_p2 P) :: (nat_lit 60, n60_p2 P) :: (nat_lit 61, n61_p2 P) :: (nat_lit 63, n63_p2 P) :: (nat_lit 64, (x64 P).1) :: (nat_lit 75, n75_p2 P) :: (nat_lit 77, n77_p2 P) :: (nat_lit 78, n78_p2 P) :: (nat_lit 80, n80_p2 P) :: (nat_lit 81, (x81 P).1) :: (nat_lit 82, n82_p2 P) :: (nat_lit 84, n84_p2 P) :: (nat_lit 85, n85_p2 P) :: (nat_lit 87, n87_p2 P) :: (nat_lit 88, (x88 P).1) :: (nat_lit 89, n89_p2 P) :: (nat_lit 91, n91_p2 P) :: (nat_lit 92, n92_p2 P) :: (nat_lit 94, n94_p2 P) :: (nat_lit 95, (x95 P).1) :: (nat_lit 96, n96_p2 P) :: (nat_lit 98, n98_p2 P) :: (nat_lit 99, n99_p2 P) :: (nat_lit 101, n101_p2 P) :: (nat_lit 102, (x102 P).1) :: (nat_lit 103, n103_p2 P) :: (nat_lit 105, n105_p2 P) :: (nat_lit 106, n106_p2 P) :: (nat_lit 108, n108_p2 P) :: (nat_lit 109, (x109 P).1) :: (nat_lit 110, n110_p2 P) :: (nat_lit 112, n112_p2 P) :: (nat_lit 113, n113_p2 P) :: (nat_lit 115, n115_p2 P) :: (nat_lit 116, (x116 P).1) :: (nat_lit 117, n117_p2 P) :: (nat_lit 119, n119_p2 P) :: (nat_lit 120, n120_p2 P) :: (nat_lit 122, n122_p2 P) :: (nat_lit 123, (x123 P).1) :: (nat_lit 124, n124_p2 P) :: (nat_lit 125, n125_p2 P) :: (nat_lit 126, n126_p2 P) :: (nat_lit 127, n127_p2 P) :: (nat_lit 128, n128_p2 P) :: (nat_lit 134, n134_p3 P) :: (nat_lit 135, n135_p3 P) :: (nat_lit 139, n139_p3 P) :: (nat_lit 140, n140_p3 P) :: (nat_lit 144, n144_p3 P) :: (nat_lit 145, n145_p3 P) :: (nat_lit 146, n146_p3 P) :: (nat_lit 147, n147_p3 P) :: (nat_lit 149, n149_p3 P) :: (nat_lit 150, n150_p3 P) :: (nat_lit 152, n152_p3 P) :: (nat_lit 153, (x153 P).1) :: (nat_lit 161, n161_p4 P) :: (nat_lit 162, n162_p4 P) :: (nat_lit 164, n164_p4 P) :: (nat_lit 165, n165_p4 P) :: (nat_lit 167, n167_p4 P) :: (nat_lit 168, (x168 P).1) :: (nat_lit 169, n169_p4 P) :: (nat_lit 171, n171_p4 P) :: (nat_lit 172, n172_p4 P) :: (nat_lit 174, n174_p4 P) :: (nat_lit 175, (x175 P).1) :: (nat_lit 176, n176_p4 P) :: (nat_lit 178, n178_p4 P) :: (nat_lit 179, n179_p4 P) :: (nat_lit 181, n181_p4 P) :: (nat_lit 182, (x182 P).1) :: (nat_lit 183, n183_p4 P) :: (nat_lit 185, n185_p4 P) :: (nat_lit 186, n186_p4 P) :: (nat_lit 188, n188_p4 P) :: (nat_lit 189, (x189 P).1) :: (nat_lit 190, n190_p4 P) :: (nat_lit 193, n193_p4 P) :: (nat_lit 194, (x194 P).1) :: (nat_lit 195, n195_p4 P) :: (nat_lit 197, n197_p4 P) :: (nat_lit 198, n198_p4 P) :: (nat_lit 200, n200_p4 P) :: (nat_lit 201, (x201 P).1) :: (nat_lit 202, n202_p4 P) :: (nat_lit 204, n204_p4 P) :: (nat_lit 205, n205_p4 P) :: (nat_lit 207, n207_p4 P) :: (nat_lit 208, (x208 P).1) :: (nat_lit 209, n209_p4 P) :: (nat_lit 211, n211_p4 P) :: (nat_lit 212, n212_p4 P) :: (nat_lit 214, n214_p4 P) :: (nat_lit 215, (x215 P).1) :: (nat_lit 216, n216_p4 P) :: (nat_lit 217, n217_p4 P) :: (nat_lit 219, n219_p4 P) :: (nat_lit 220, n220_p4 P) :: (nat_lit 222, n222_p4 P) :: (nat_lit 223, (x223 P).1) :: (nat_lit 224, n224_p4 P) :: (nat_lit 227, n227_p4 P) :: (nat_lit 228, (x228 P).1) :: (nat_lit 229, n229_p4 P) :: (nat_lit 232, n232_p4 P) :: (nat_lit 233, (x233 P).1) :: (nat_lit 234, n234_p4 P) :: (nat_lit 236, n236_p4 P) :: (nat_lit 237, n237_p4 P) :: (nat_lit 239, n239_p4 P) :: (nat_lit 240, (x240 P).1) :: (nat_lit 241, n241_p4 P) :: (nat_lit 243, n243_p4 P) :: (nat_lit 244, n244_p4 P) :: (nat_lit 246, n246_p4 P) :: (nat_lit 247, (x247 P).1) :: (nat_lit 248, n248_p4 P) :: (nat_lit 251, n251_p4 P) :: (nat_lit 252, (x252 P).1) :: (nat_lit 253, n253_p4 P) :: (nat_lit 255, n255_p4 P) :: (nat_lit 256, n256_p4 P) :: (nat_lit 258, n258_p4 P) :: (nat_lit 259, (x259 P).1) :: (nat_lit 260, n260_p4 P) :: (nat_lit 262, n262_p4 P) :: (nat_lit 263, n263_p4 P) :: (nat_lit 265, n265_p4 P) :: (nat_lit 266, (x266 P).1) :: (nat_lit 267, n267_p4 P) :: (nat_lit 269, n269_p4 P) :: (nat_lit 270, n270_p4 P) :: (nat_lit 272, n272_p4 P) :: (nat_lit 273, (x273 P).1) :: (nat_lit 274, n274_p4 P) :: (nat_lit 275, n275_p4 P) :: (nat_lit 276, n276_p4 P) :: (nat_lit 277, n277_p4 P) :: (nat_lit 278, n278_p4 P) :: (nat_lit 281, n281_p5 P) :: (nat_lit 283, n283_p5 P) :: (nat_lit 284, n284_p5 P) :: (nat_lit 286, n286_p5 P) :: (nat_lit 287, (x287 P).1) :: (nat_lit 288, n288_p5 P) :: (nat_lit 290, n290_p5 P) :: (nat_lit 291, n291_p5 P) :: (nat_lit 293, n293_p5 P) :: (nat_lit 294, (x294 P).1) :: (nat_lit 295, n295_p5 P) :: (nat_lit 297, n297_p5 P) :: (nat_lit 298, n298_p5 P) :: (nat_lit 300, n300_p5 P) :: (nat_lit 301, (x301 P).1) :: (nat_lit 302, n302_p5 P) :: (nat_lit 305, n305_p5 P) :: (nat_lit 306, (x306 P).1) :: (nat_lit 307, n307_p5 P) :: (nat_lit 309, n309_p5 P) :: (nat_lit 310, n310_p5 P) :: (nat_lit 312, n312_p5 P) :: (nat_lit 313, (x313 P).1) :: (nat_lit 314, n314_p5 P) :: (nat_lit 316, n316_p5 P) :: (nat_lit 317, n317_p5 P) :: (nat_lit 319, n319_p5 P) :: (nat_lit 320, (x320 P).1) :: (nat_lit 321, n321_p5 P) :: (nat_lit 323, n323_p5 P) :: (nat_lit 324, n324_p5 P) :: (nat_lit 326, n326_p5 P) :: (nat_lit 327, (x327 P).1) :: (nat_lit 328, n328_p5 P) :: (nat_lit 330, n330_p5 P) :: (nat_lit 331, n331_p5 P) :: (nat_lit 333, n333_p5 P) :: (nat_lit 334, (x334 P).1) :: (nat_lit 335, n335_p5 P) :: (nat_lit 338, n338_p5 P) :: (nat_lit 339, (x339 P).1) :: []
noncomputable def Kas : List Addr := [2, 3, 32, 34, 35, 37, 38, 39, 40, 42, 43, 45, 46, 54, 58, 60, 61, 63, 64, 75, 77, 78, 80, 81, 82, 84, 85, 87, 88, 89, 91, 92, 94, 95, 96, 98, 99, 101, 102, 103, 105, 106, 108, 109, 110, 112, 113, 115, 116, 117, 119, 120, 122, 123, 124, 125, 126, 127, 128, 134, 135, 139, 140, 144, 145, 146, 147, 149, 150, 152, 153, 161, 162, 164, 165, 167, 168, 169, 171, 172, 174, 175, 176, 178, 179, 181, 182, 183, 185, 186, 188, 189, 190, 193, 194, 195, 197, 198, 200, 201, 202, 204, 205, 207, 208, 209, 211, 212, 214, 215, 216, 217, 219, 220, 222, 223, 224, 227, 228, 229, 232, 233, 234, 236, 237, 239, 240, 241, 243, 244, 246, 247, 248, 251, 252, 253, 255, 256, 258, 259, 260, 262, 263, 265, 266, 267, 269, 270, 272, 273, 274, 275, 276, 277, 278, 281, 283, 284, 286, 287, 288, 290, 291, 293, 294, 295, 297, 298, 300, 301, 302, 305, 306, 307, 309, 310, 312, 313, 314, 316, 317, 319, 320, 321, 323, 324, 326, 327, 328, 330, 331, 333, 334, 335, 338, 339]
end Mine
end
section
namespace Mine
theorem start_is : (start (opening pw)).1 = (SharedT.mk .nil 0 {} #[] {} 1 (start (opening pw)).1.os).abs := by kernel_rfl
theorem open_lem : ∀ w : World, importEnds treeTable (opening pw) w 799 (start (opening pw)).1 (start (opening pw)).2 = some ⟨absHeap (tr_e w.params) 28 {}, #[], {}, 276, (start (opening pw)).1.os⟩ := fun w => by
  have h := congrFun (E_open w) (start (opening pw)).1.os
  have h2 := impEnds_of (show impEndsT treeTable (opening pw) w 799 ⟨.nil, 0, {}, #[], {}, 1, (start (opening pw)).1.os⟩ (start (opening pw)).2 = some ⟨tr_e w.params, 28, {}, #[], {}, 276, (start (opening pw)).1.os⟩ from h)
  rw [start_is]
  exact h2
theorem fenced : ∀ w : World, (fencedOpening treeTable pw w 6162).map (fun s => (s.heap, s.gens, s.drawn, s.toks)) = some (hp_s w.params, #[], {}, 276) :=
  open_cut (p := pw) (N := 6162) (M := 799) (He := fun P => absHeap (tr_e P) 28 {}) (H₀ := hp_s) (ge := #[]) (g₀ := #[]) (de := {}) (d₀ := {}) (ke := 276) (k₀ := 276) open_lem (by decide) fun w => E_fence w
theorem sized : ∀ w : World, ((hp_s w.params).isNs mainGlobals && (#[] : Array GenState).size == 0, (hp_s w.params).objs.size, (hp_s w.params).nsMap mainGlobals "__annotations__") = (true, 28, some (.ref 6)) := fun w => E_size w
theorem bd_is : bd0 = sts0 ++ (sts1 ++ (sts2 ++ (sts3 ++ (sts4 ++ (sts5 ++ []))))) := by kernel_rfl

noncomputable abbrev seg1 (w : World) (n : Nat) (s : Shared) (t : Thread) := segRun treeTable pw w 28 (some (.ref 6)) 1 n s t
noncomputable abbrev top1 (w : World) (n : Nat) (s : Shared) (t : Thread) := topRun treeTable pw w 28 (some (.ref 6)) n s t
noncomputable abbrev sh (T : Params → BT) (n tk : Nat) (w : World) (os : OsState) : Shared := (SharedT.mk (T w.params) n {} #[] {} tk os).abs
theorem run_all (w : World) (os : OsState) : top1 w (12 + (1 + (220 + (999 + (527 + (266 + (731 + (281 + 2)))))))) ⟨hp_s w.params, #[], {}, 276, os⟩ (topStub pw) = some ⟨hp_f w.params, #[], {}, 843, os⟩ := by
  have h0 := segRun_of (congrFun (E_p0 w) os)
  have h1 := segRun_of (congrFun (E_p1 w) os)
  have h2 := segRun_of (congrFun (E_p2 w) os)
  have h3 := segRun_of (congrFun (E_p3 w) os)
  have h4 := segRun_of (congrFun (E_p4 w) os)
  have h5 := segRun_of (congrFun (E_p5 w) os)
  have hf := congrFun (E_fin w) os
  have k := piece_app h5 (piece_nil hf)
  have k := piece_app h4 k
  have k := piece_app h3 k
  have k := piece_app h2 k
  have k := piece_app h1 k
  have k := piece_app h0 k
  rw [← bd_is] at k
  have k := piece_block (congrFun (E_block w) os) k
  exact go_top (congrFun (E_pre w) os) k
end Mine
end
section
namespace Mine
noncomputable def q : Program := view pw [0, 1, 3, 4, 6, 7, 9, 11, 12, 13, 15, 17, 18, 19, 20, 21, 22, 23, 24, 25]
noncomputable def loose : List Str := [Str.ofString "COMPILER_FLAG_NAMES", Str.ofString "b1_set", Str.ofString "Whitespace", Str.ofString "tspecials", Str.ofString "_name_disallowed_re", Str.ofString "_value_disallowed_re", Str.ofString "_formatparam"]
noncomputable abbrev row : RowW := (PySem.Challenge.rw_sn0070_01.row).toRowW
noncomputable def Xt : Shared → Bool := fun s => xlAt q [] s && recOk row.records s
theorem K_as : ∀ P, Kas = (K P).map (·.1) := fun _ => by kernel_rfl
noncomputable abbrev H : Hook := kHook K Kas K_as
noncomputable def shf (w : World) (os : OsState) : Shared := ⟨hp_f w.params, #[], {}, 843, os⟩

noncomputable def L_l0 (w : World) : OsState → Bool := fun os => (staticsOk (importedModules pw.main.body) (hp_s w.params) (hp_f w.params) && namesBound pw (hp_f w.params) && gensDone (shf w os) && laidKept (hp_s w.params) (hp_f w.params))
theorem L_l0_self : L_l0 = L_l0 := rfl
name_quick L_l0Q for L_l0 by L_l0_self
theorem E_l0 (w : World) : L_l0 w = fun _ => true := by
  rw [PySem.W.Fast.L_l0Q_eq]
  kernel_rfl
noncomputable def L_l1 (w : World) (os : OsState) := openSeen q loose (importedModules pw.main.body) Xt true (shf w os)
noncomputable def R_l1 (_ : World) (_ : OsState) := openGood q loose
theorem L_l1_self : L_l1 = L_l1 := rfl
theorem R_l1_self : R_l1 = R_l1 := rfl
name_quick L_l1Q for L_l1 by L_l1_self
name_quick R_l1Q for R_l1 by R_l1_self
theorem E_l1 (w : World) : L_l1 w = R_l1 w := by
  rw [PySem.W.Fast.L_l1Q_eq, PySem.W.Fast.R_l1Q_eq]
  kernel_rfl
noncomputable def L_l2 (w : World) (os : OsState) := Kas.map (shf w os).heap.get?
noncomputable def R_l2 (w : World) (_ : OsState) := (K w.params).map fun p => some p.2
theorem E_l2 (w : World) : L_l2 w = R_l2 w := by kernel_rfl
theorem left : LeftO pw q loose Xt (Hook.obs H) (Hook.val H) 6162 :=
  LeftO.of_pieces (H₀ := hp_s) (H₁ := hp_f) (gs₀ := #[]) (gs₁ := #[]) (d₀ := {}) (d₁ := {}) (k₀ := 276) (k₁ := 843) (m₀ := 28) (ann := some (.ref 6)) (M := 12 + (1 + (220 + (999 + (527 + (266 + (731 + (281 + 2))))))))
    fenced sized run_all (by decide) fun w => funext fun os => looks_pair (congrFun (E_l0 w) os) (looks_pair (congrFun (E_l1 w) os) (congrFun (E_l2 w) os))
end Mine
end
section
namespace Mine
noncomputable def Spec (k : Nat) (w : World) (f : Value) (args : List Value) (kws : List (Str × Value)) (news : List (Addr × Obj)) (Post : Value → List (Addr × Obj) → Prop) : Prop :=
  ∀ (dp un : Nat) (gd : Option (List Code)) (cn : Str) (nm : List (Str × NameKind)) (ig ic : Bool) (mo : List (Str × Const)) (a : Addr) (ccd : Value) (cl : List (Str × Addr)) (outer : List Env) (A₀ : Around) (base h₀ : Heap) (L : Addr) (m : Str → Option Value) (s : Shared) (Q E : Value → Shared → Prop) (mean : ExcName → Option Value) (mg mb : Str → Option Value),
    Below A₀ base outer h₀ → Fr h₀ L s.heap m → (K w.params).In h₀ → News h₀ L s.heap news → Top q (looseW q loose) mean mg mb h₀ →
      dp + 4 * k < recursionLimit → un + 20 * k < cLine →
      (∀ (v : Value) (news' : List (Addr × Obj)) (h' : Heap) (tk' : Nat), Post v news' → Fr h₀ L h' m → News h₀ L h' news' → Q v { s with heap := h', toks := tk' }) →
      wpAny (model PySem.Challenge.rw_sn0070_01.row.prog w) (ktrTop dp un gd cn ⟨.function, nm, ig, ic, mo⟩ L a ccd cl outer) (call f args kws) Q E s
theorem Spec.use {k : Nat} {w : World} {f : Value} {args : List Value} {kws : List (Str × Value)} {news : List (Addr × Obj)} {Post : Value → List (Addr × Obj) → Prop}
    {dp un : Nat} {gd : Option (List Code)} {cn : Str} {nm : List (Str × NameKind)} {ig ic : Bool} {mo : List (Str × Const)} {a : Addr} {ccd : Value} {cl : List (Str × Addr)} {outer : List Env} {A₀ : Around} {base h₀ : Heap} {L : Addr} {m : Str → Option Value} {s : Shared} {Q E : Value → Shared → Prop} {mean : ExcName → Option Value} {mg mb : Str → Option Value}
    (B : Below A₀ base outer h₀) (F : Fr h₀ L s.heap m) (X : (K w.params).In h₀) (N : News h₀ L s.heap news) (T : Top q (looseW q loose) mean mg mb h₀)
    (S : Spec k w f args kws news Post) (hd : dp + 4 * k < recursionLimit) (hu : un + 20 * k < cLine)
    (ret : ∀ (v : Value) (news' : List (Addr × Obj)) (h' : Heap) (tk' : Nat), Post v news' → Fr h₀ L h' m → News h₀ L h' news' → Q v { s with heap := h', toks := tk' }) :
    wpAny (model PySem.Challenge.rw_sn0070_01.row.prog w) (ktrTop dp un gd cn ⟨.function, nm, ig, ic, mo⟩ L a ccd cl outer) (call f args kws) Q E s :=
  S _ _ _ _ _ _ _ _ _ _ _ _ _ _ _ _ _ _ _ _ _ _ _ B F X N T hd hu ret
/-- what a menu's item keeps -/
theorem menu {P : Int → Prop} {xs : List Int} {d : Int} (h : ∀ x ∈ xs, P x) (hd : P d) (i : Nat) : P (xs.getD i d) := by
  rw [List.getD_eq_getElem?_getD]
  cases q : xs[i]? with
  | none => exact hd
  | some y => exact h y (List.mem_of_getElem? q)
theorem nil_all {α : Type} {P : α → Prop} : ∀ p ∈ ([] : List α), P p := fun _ h => absurd h List.not_mem_nil
theorem nil_at {α : Type} {P : Nat → α → Prop} : ∀ (j : Nat) (c : α), ([] : List α)[j]? = some c → P j c := fun j _ h => by
  rw [List.getElem?_nil] at h
  cases h
end Mine
end
section
open PySem.Spec
namespace Mine
/-- a turn's end: the state may have new addresses -/
structure TEnd (h₀ : Heap) (L : Addr) (J : (Str → Option Value) → List (Addr × Obj) → Prop) (own : Addr × Obj) (s₁ : Shared) (s₂ : Shared) : Prop where
  out : ∃ h' tk m' news' nx, s₂ = { s₁ with heap := h', toks := tk } ∧ Fr h₀ L h' m' ∧ News h₀ L h' news' ∧ (∀ p ∈ nx, p ∈ news') ∧ own ∈ news' ∧ (∀ p ∈ nx, p.1 ≠ own.1) ∧ J m' nx
noncomputable def TPost (h₀ : Heap) (L : Addr) (J : (Str → Option Value) → List (Addr × Obj) → Prop) (own : Addr × Obj) (s₁ : Shared) (Q : Flow → Shared → Prop) (f : Flow) (s₂ : Shared) : Prop :=
  match f with
  | .ret v => Q (.ret v) s₂
  | .brk => Q .next s₂
  | _ => TEnd h₀ L J own s₁ s₂
section
variable {prog : Program} {w : World} {A : Around} {E : Value → Shared → Prop} {s : Shared} {env : Env} {h₀ : Heap} {x : Str} {body : List Stmt} {Q : Flow → Shared → Prop}
theorem iter_str {xt : Str} {t : Tok} {Q : Value → Shared → Prop}
    (hQ : ∀ (o : Obj) (St : Nat → Heap → Prop), (∀ A' : Around, A'.handled = none → Walks prog w A' s.heap.objs.size [s.heap.objs.size] [s.heap.objs.size] xt.cps.size (SignAt xt) St) → (∀ i h, St i h → ∃ o, h.get? s.heap.objs.size = some o) → St 0 (s.heap.push o) →
      Q (.ref s.heap.objs.size) { s with heap := s.heap.push o }) : wpAny (model prog w) A (pyIter (.str xt t)) Q E s := by
  cases ha : xt.cps.all (· < 128)
  · exact wpAny_pyIter_wide ha (hQ _ _ (fun A' hA => Walks.strWide hA _ xt t) (fun i h y => let ⟨o, ho, _⟩ := y; ⟨o, ho⟩) ⟨_, Heap.get?_push_size _ rfl, rfl, rfl⟩)
  · exact wpAny_pyIter_ascii ha (hQ _ _ (fun A' hA => Walks.strAscii hA _ xt t) (fun i h y => let ⟨o, ho, _⟩ := y; ⟨o, ho⟩) ⟨_, Heap.get?_push_size _ rfl, rfl, rfl⟩)
theorem text_loop {xt : Str} {tx : Tok} {m₀ : Str → Option Value} {news : List (Addr × Obj)} (J : List Nat → (Str → Option Value) → List (Addr × Obj) → Prop)
    (hh : A.handled = none) (F : Fr h₀ env.locals s.heap m₀) (N : News h₀ env.locals s.heap news) (hj : J [] m₀ news)
    (turn : ∀ (pre post : List Nat) (n : Nat) t m₁ nx h tk own, xt.cps.toList = pre ++ n :: post → (∀ r ∈ nx, r.1 ≠ own.1) → J pre m₁ nx →
      Fr h₀ env.locals h (fun y => if y = x then some (.str ⟨#[n]⟩ t) else m₁ y) → News h₀ env.locals h (own :: nx) →
      wpAny (model prog w) A (execs body env) (TPost h₀ env.locals (J (pre ++ [n])) own { s with heap := h, toks := tk } Q) E { s with heap := h, toks := tk })
    (done : ∀ m₁ nx h tk, J xt.cps.toList m₁ nx → Fr h₀ env.locals h m₁ → News h₀ env.locals h nx → Q .next { s with heap := h, toks := tk }) :
    wpAny (model prog w) A (pyIter (.str xt tx)) (fun it s₂ => LoopAtV prog w A h₀ env x body Q E it s₂) E s := by
  refine iter_str fun o St hW hex hst => ?_
  have W := hW A hh
  refine ⟨s.heap.objs.size, [s.heap.objs.size], [s.heap.objs.size], xt.cps.size, SignAt xt, St, m₀, news, fun i m nx => J (xt.cps.toList.take i) m nx, rfl, W, ?_, ?_, ?_, hst, F.push _, (fun p hp => ⟨Heap.get?_push_of_some _ (N p hp).1, (N p hp).2⟩), by simpa using hj, ?_, ?_⟩
  · intro hm
    exact absurd F.ns.lt ((List.mem_singleton.mp hm) ▸ Nat.lt_irrefl _)
  · intro b' hb
    rw [List.mem_singleton.mp hb]
    exact next_is_new F
  · intro p hp hI
    exact absurd (Heap.lt_size (N p hp).1) ((List.mem_singleton.mp hI) ▸ Nat.lt_irrefl _)
  · rintro i v m₁ nx s₁ own ⟨hh', tk', rfl⟩ hin ⟨n, u, hn, rfl⟩ hJ hoff hown hgets hall hst' F₁ N₁
    obtain ⟨oI, hoI⟩ := hex _ _ hst'
    have hI : (s.heap.objs.size, oI) ∈ own := hall _ (List.mem_singleton.mpr rfl) (next_is_new F) _ hoI
    have hl : i < xt.cps.toList.length := by simpa using hin
    have hn' : xt.cps.toList[i]? = some n := by simpa using hn
    have hs : xt.cps.toList.take (i + 1) = xt.cps.toList.take i ++ [n] := by rw [List.take_add_one, hn']; rfl
    have e : xt.cps.toList = xt.cps.toList.take i ++ n :: xt.cps.toList.drop (i + 1) := by
      have ht := List.take_append_drop (i + 1) xt.cps.toList
      rw [hs, List.append_assoc] at ht
      exact ht.symm
    have hne : ∀ r ∈ nx, r.1 ≠ s.heap.objs.size := fun r hr q => hoff r hr (by rw [q]; exact List.mem_singleton.mpr rfl)
    have N₂ : News h₀ env.locals hh' ((s.heap.objs.size, oI) :: nx) := fun p hp => by
      rcases List.mem_cons.mp hp with h | h
      · rw [h]; exact N₁ _ (List.mem_append_left _ hI)
      · exact N₁ p (List.mem_append_right _ h)
    refine wpAny_mono (turn _ _ n u m₁ nx hh' tk' (s.heap.objs.size, oI) e hne hJ F₁ N₂) (fun f s₂ p => ?_) fun _ _ e => e
    have fin : TEnd h₀ env.locals (J (xt.cps.toList.take i ++ [n])) (s.heap.objs.size, oI) { s with heap := hh', toks := tk' } s₂ →
        LoopStepU h₀ env.locals [s.heap.objs.size] own (fun m nx => J (xt.cps.toList.take (i + 1)) m nx) { s with heap := hh', toks := tk' } .next s₂ := by
      rintro ⟨h', tk, m', news', nx', e, F', N', hsub, hown', hne', hm⟩
      refine ⟨rfl, h', tk, m', nx', e, F', fun p hp => ?_, fun p hp hq => hne' p hp (List.mem_singleton.mp hq), by rw [hs]; exact hm⟩
      rcases List.mem_append.mp hp with h | h
      · have h1 := List.mem_singleton.mp (hown p h)
        have h2 := hgets p h
        have h3 : p = (s.heap.objs.size, oI) := by
          rw [h1] at h2
          have : some oI = some p.2 := hoI.symm.trans h2
          obtain ⟨p1, p2⟩ := p
          cases this
          exact congrArg (·, _) h1
        rw [h3]
        exact N' _ hown'
      · exact N' p (hsub p h)
    cases f with
    | ret v => exact p
    | brk => exact p
    | next => exact fin p
    | cont => exact fin p
  · rintro h' tk m' news' F' N' _ hJ
    have hl : xt.cps.toList.take xt.cps.size = xt.cps.toList := by rw [← Array.length_toList, List.take_length]
    rw [hl] at hJ
    exact done m' news' h' tk hJ F' N'
noncomputable def TK {σ : Type} (Led : List Nat → σ → List (Addr × Obj)) (ps : List Nat → σ → List (Str × Value)) (Facts : List Nat → σ → Prop) (x : Str) (stored : List Str) (m₀ : Str → Option Value) (pre : List Nat) : (Str → Option Value) → List (Addr × Obj) → Prop :=
  KstS (Led pre) (ps pre) (Facts pre) x stored m₀ (fun _ _ => True) []
theorem text_loopK {σ : Type} {xt : Str} {tx : Tok} {m₀ : Str → Option Value} (Led : List Nat → σ → List (Addr × Obj)) (ps : List Nat → σ → List (Str × Value)) (Facts : List Nat → σ → Prop) (stored : List Str) (c₀ : σ)
    (hh : A.handled = none) (F : Fr h₀ env.locals s.heap m₀) (N : News h₀ env.locals s.heap (Led [] c₀)) (hf : Facts [] c₀) (hk : ∀ p ∈ ps [] c₀, m₀ p.1 = some p.2)
    (turn : ∀ (c : σ) (pre post : List Nat) (n : Nat) t (u : Str → Option Value) h tk own, xt.cps.toList = pre ++ n :: post → (∀ r ∈ Led pre c, r.1 ≠ own.1) → Facts pre c →
      Fr h₀ env.locals h (fun y => if y = x then some (.str ⟨#[n]⟩ t) else kstB (fun z => if stored.contains z then u z else m₀ z) (ps pre c) y) → News h₀ env.locals h (own :: Led pre c) →
      wpAny (model prog w) A (execs body env) (TPost h₀ env.locals (TK Led ps Facts x stored m₀ (pre ++ [n])) own { s with heap := h, toks := tk } Q) E { s with heap := h, toks := tk })
    (done : ∀ (c : σ) (u : Str → Option Value) h tk, Facts xt.cps.toList c → Fr h₀ env.locals h (fun y => if y = x then u y else kstB (fun z => if stored.contains z then u z else m₀ z) (ps xt.cps.toList c) y) → News h₀ env.locals h (Led xt.cps.toList c) → Q .next { s with heap := h, toks := tk }) :
    wpAny (model prog w) A (pyIter (.str xt tx)) (fun it s₂ => LoopAtV prog w A h₀ env x body Q E it s₂) E s := by
  refine text_loop (TK Led ps Facts x stored m₀) hh F N ⟨c₀, rfl, hf, hk, fun _ _ _ _ => rfl, trivial⟩ ?_ ?_
  · rintro pre post n t m₁ nx h tk own hcs hne ⟨c, rfl, hf, hk, hr, -⟩ F N
    exact turn c pre post n t m₁ h tk own hcs hne hf (kst_fr hk hr F) N
  · rintro m₁ nx h tk ⟨c, rfl, hf, hk, hr, -⟩ F N
    exact done c m₁ h tk hf (kst_frOut hk hr F) N
end
end Mine
end
section
open PySem.Spec
namespace Mine
/-- a for's turns, any target, with an else -/
noncomputable def MyLoop (prog : Program) (w : World) (A : Around) (target : Expr) (body orelse : List Stmt) (env : Env) (Q : Flow → Shared → Prop) (E : Value → Shared → Prop) (it : Value) (s : Shared) : Prop :=
  codeAny (model prog w) A (.forLoop target it body orelse env) (fun r s' => match r with | .ok f => Q f s' | .error e => cameBackBy (model prog w) A env E e s') s
section
variable {prog : Program} {w : World} {A : Around} {E : Value → Shared → Prop} {s : Shared} {env : Env} {h₀ : Heap} {target : Expr} {body orelse : List Stmt} {Q : Flow → Shared → Prop}
theorem for_enter {iter : Expr} {pos : Pos}
    (h : wpAny (model prog w) A (eval iter env) (fun xv s₁ => wpAny (model prog w) A (pyIter xv) (fun it s₂ => MyLoop prog w A target body orelse env Q E it s₂) E s₁) E s)
    (hs : ∀ x, foldedSetIterable iter env x = pure x := by intro _; rfl) :
    wpAny (model prog w) A (exec (.For target iter body orelse pos) env) Q E s := wpAny_For h hs
theorem loop_walk {I : Addr} {fp : List Addr} {n : Nat} {P : Nat → Value → Prop} {St : Nat → Heap → Prop} {S : List (Addr × Obj) → Prop} {m : Str → Option Value} {news : List (Addr × Obj)} (J : Nat → (Str → Option Value) → List (Addr × Obj) → Prop)
    (W : Walks prog w A I fp [I] n P St) (hIo : ∀ i h, St i h → ∃ o, h.get? I = some o)
    (hSt : ∀ i h h' o nw, St i h → h.get? I = some o → h'.get? I = some o → (∀ b o, h₀.get? b = some o → h'.get? b = some o) → News h₀ env.locals h' nw → S nw → St i h')
    (hgo : ∀ i (s' : Shared) v (Q' : Unit → Shared → Prop) (E' : Value → Shared → Prop), St i s'.heap → Q' () s' → wpAny (model prog w) A (letOwnedTupleGo target (.ref I) v) Q' E' s')
    (hIL : env.locals ≠ I) (hI₀ : h₀.get? I = none) (hst : St 0 s.heap) (F : Fr h₀ env.locals s.heap m) (N : News h₀ env.locals s.heap news) (off : ∀ p ∈ news, p.1 ≠ I) (hS : S news) (h0 : J 0 m news)
    (turn : ∀ i v oI m₁ nx h tk, i < n → P i v → J i m₁ nx → S nx → Fr h₀ env.locals h m₁ → News h₀ env.locals h ((I, oI) :: nx) → (∀ p ∈ nx, p.1 ≠ I) →
      wpAny (model prog w) A (assign target env v) (fun _ s₂ => wpAny (model prog w) A (execs body env) (TPost h₀ env.locals (fun m nx => J (i + 1) m nx ∧ S nx) (I, oI) { s with heap := h, toks := tk } Q) E s₂) E { s with heap := h, toks := tk })
    (done : ∀ m₁ nx h tk, J n m₁ nx → Fr h₀ env.locals h m₁ → News h₀ env.locals h nx → wpAny (model prog w) A (execs orelse env) Q E { s with heap := h, toks := tk })
    (hE : PassesOwn (model prog w) A env E := by passes_own) :
    MyLoop prog w A target body orelse env Q E (.ref I) s := by
  have lift : ∀ {h h' : Heap} {m' : Str → Option Value} {nx : List (Addr × Obj)}, (∀ p ∈ nx, p.1 ≠ I) → (∀ b o, b ∉ [I] → h.get? b = some o → h'.get? b = some o) → Fr h₀ env.locals h m' → News h₀ env.locals h nx → Fr h₀ env.locals h' m' ∧ News h₀ env.locals h' nx :=
    fun ho hk F N => ⟨LCg.fr_but F hk hIL hI₀, LCg.news_but N hk ho⟩
  refine codeAny_forLoop_any
    (fun k s' => ∃ i h' tk m' nx, s' = { s with heap := h', toks := tk } ∧ k + i = n ∧ St i h' ∧ Fr h₀ env.locals h' m' ∧ News h₀ env.locals h' nx ∧ (∀ p ∈ nx, p.1 ≠ I) ∧ J i m' nx ∧ S nx) ?_ n
    ⟨0, s.heap, s.toks, m, news, rfl, rfl, hst, F, N, off, h0, hS⟩
  rintro k s' ⟨i, h', tk, m', nx, rfl, hk, hst', F', N', off', hJ, hS'⟩
  rcases Nat.lt_or_ge i n with hlt | hge
  · refine W.item i _ _ _ hlt hst' fun v h₁ tk₁ hP hst₁ hk₁ => ?_
    obtain ⟨F₁, N₁⟩ := lift off' hk₁ F' N'
    obtain ⟨oI, hoI⟩ := hIo _ _ hst₁
    have N₂ : News h₀ env.locals h₁ ((I, oI) :: nx) := List.forall_mem_cons.mpr ⟨⟨hoI, hIL.symm, hI₀⟩, N₁⟩
    have fin : ∀ s₃, TEnd h₀ env.locals (fun m nx => J (i + 1) m nx ∧ S nx) (I, oI) { s with heap := h₁, toks := tk₁ } s₃ →
        ∃ m, m < k ∧ ∃ i h' tk m' nx, s₃ = { s with heap := h', toks := tk } ∧ m + i = n ∧ St i h' ∧ Fr h₀ env.locals h' m' ∧ News h₀ env.locals h' nx ∧ (∀ p ∈ nx, p.1 ≠ I) ∧ J i m' nx ∧ S nx := by
      rintro s₃ ⟨h₃, tk₃, m₃, news₃, nx₃, rfl, F₃, N₃, hsub, hown, hne, hJ₃, hS₃⟩
      have N₄ : News h₀ env.locals h₃ nx₃ := fun p hp => N₃ p (hsub p hp)
      exact ⟨k - 1, by omega, i + 1, h₃, tk₃, m₃, nx₃, rfl, by omega, hSt _ _ _ _ _ hst₁ hoI (N₃ _ hown).1 F₃.keep N₄ hS₃, F₃, N₄, hne, hJ₃, hS₃⟩
    refine hgo (i + 1) _ v _ _ hst₁ (wpAny_mono (turn i v oI m' nx h₁ tk₁ hlt hP hJ hS' F₁ N₂ off') (fun _ s₂ h₂ => ?_) hE)
    refine wpAny_passesOwn hE (wpAny_mono h₂ (fun f s₃ h₃ => ?_) fun _ _ e => e)
    cases f with
    | ret v => exact h₃
    | brk => exact h₃
    | next => exact fin s₃ h₃
    | cont => exact fin s₃ h₃
  · obtain rfl : i = n := by omega
    refine W.done _ _ _ hst' fun h₁ tk₁ hk₁ => ?_
    obtain ⟨F₁, N₁⟩ := lift off' hk₁ F' N'
    exact wpAny_passesOwn hE (done m' nx h₁ tk₁ hJ F₁ N₁)
theorem TPost.mono {L : Addr} {J J' : (Str → Option Value) → List (Addr × Obj) → Prop} {own : Addr × Obj} {s₁ s₂ : Shared} {f : Flow} (hJ : ∀ m nx, J m nx → J' m nx) (h : TPost h₀ L J own s₁ Q f s₂) : TPost h₀ L J' own s₁ Q f s₂ := by
  have fin : TEnd h₀ L J own s₁ s₂ → TEnd h₀ L J' own s₁ s₂ := by
    rintro ⟨h₃, tk₃, m₃, news₃, nx₃, e, F₃, N₃, hsub, hown, hne, hJ₃⟩
    exact ⟨h₃, tk₃, m₃, news₃, nx₃, e, F₃, N₃, hsub, hown, hne, hJ _ _ hJ₃⟩
  cases f with
  | ret v => exact h
  | brk => exact h
  | next => exact fin h
  | cont => exact fin h
theorem range_loop {x : Str} {px : Pos} {r : Addr} {a b : Int} {t u v : Tok} {n : Nat} {m : Str → Option Value} {news : List (Addr × Obj)} (J : Nat → (Str → Option Value) → List (Addr × Obj) → Prop)
    (hh : A.handled = none) (hr : IsRange s.heap r a b 1 t u v) (hsmall : Builtin.Range.small a b 1 = true) (hn : Builtin.Range.rangeSize a b 1 = (n : Int)) (F : Fr h₀ env.locals s.heap m) (N : News h₀ env.locals s.heap news) (h0 : J 0 m news)
    (turn : ∀ i t I oI m₁ nx h tk, i < n → J i m₁ nx → Fr h₀ env.locals h m₁ → News h₀ env.locals h ((I, oI) :: nx) → (∀ p ∈ nx, p.1 ≠ I) →
      wpAny (model prog w) A (assign (.Name x px) env (.int (a + (i : Nat)) t)) (fun _ s₂ => wpAny (model prog w) A (execs body env) (TPost h₀ env.locals (J (i + 1)) (I, oI) { s with heap := h, toks := tk } Q) E s₂) E { s with heap := h, toks := tk })
    (done : ∀ m₁ nx h tk, J n m₁ nx → Fr h₀ env.locals h m₁ → News h₀ env.locals h nx → wpAny (model prog w) A (execs orelse env) Q E { s with heap := h, toks := tk })
    (hE : PassesOwn (model prog w) A env E := by passes_own) :
    wpAny (model prog w) A (pyIter (.ref r)) (fun it s₂ => MyLoop prog w A (.Name x px) body orelse env Q E it s₂) E s := by
  refine wpAny_pyIter_range hr hsmall ?_
  refine loop_walk J (LCg.range_walks hh a n) (fun i h st => ⟨_, st⟩) (S := fun _ => True) LCg.range_st (fun i s' v Q' E' _ h => wpAny_pure h) (Nat.ne_of_lt F.ns.lt) (next_is_new F) (by show IsRangeIter _ _ _ _ _; rw [hn]; simpa using Heap.get?_push_size _ rfl) (F.push _)
    (fun p hp => ⟨Heap.get?_push_of_some _ (N p hp).1, (N p hp).2⟩) (fun p hp => Nat.ne_of_lt (Heap.lt_size (N p hp).1)) trivial h0 ?_ (fun m₁ nx h tk => done m₁ nx h tk) hE
  rintro i v oI m₁ nx h tk hi ⟨t, rfl⟩ hJ - F₁ N₁ off
  exact wpAny_mono (turn i t _ oI m₁ nx h tk hi hJ F₁ N₁ off) (fun _ s₂ h₂ => wpAny_mono h₂ (fun f s₃ h₃ => TPost.mono (fun m nx hj => ⟨hj, trivial⟩) h₃) fun _ _ e => e) fun _ _ e => e
theorem list_loop {ax : Addr} {lo : Obj} {its : Array Value} {k : Nat} {m : Str → Option Value} {news : List (Addr × Obj)} (J : Nat → (Str → Option Value) → List (Addr × Obj) → Prop)
    (hh : A.handled = none) (hc : lo.cls = .type "list") (hd : lo.data = .seq its k) (F : Fr h₀ env.locals s.heap m) (N : News h₀ env.locals s.heap news) (hJS : ∀ i m nx, J i m nx → (ax, lo) ∈ nx) (h0 : J 0 m news)
    (turn : ∀ i v I oI m₁ nx h tk, its[i]? = some v → J i m₁ nx → Fr h₀ env.locals h m₁ → News h₀ env.locals h ((I, oI) :: nx) → (∀ p ∈ nx, p.1 ≠ I) →
      wpAny (model prog w) A (assign target env v) (fun _ s₂ => wpAny (model prog w) A (execs body env) (TPost h₀ env.locals (J (i + 1)) (I, oI) { s with heap := h, toks := tk } Q) E s₂) E { s with heap := h, toks := tk })
    (done : ∀ m₁ nx h tk, J its.size m₁ nx → Fr h₀ env.locals h m₁ → News h₀ env.locals h nx → wpAny (model prog w) A (execs orelse env) Q E { s with heap := h, toks := tk })
    (hE : PassesOwn (model prog w) A env E := by passes_own) :
    wpAny (model prog w) A (pyIter (.ref ax)) (fun it s₂ => MyLoop prog w A target body orelse env Q E it s₂) E s := by
  have src : ∀ i m nx, J i m nx → LCg.SrcAt h₀ ax its nx := fun i m nx hj => .inr ⟨lo, hJS i m nx hj, hc, k, hd⟩
  have hl := (src _ _ _ h0).list F.keep N
  have hlt : ax < s.heap.objs.size := by obtain ⟨_, e, _⟩ := hl; exact Heap.lt_size e
  refine wpAny_pyIter_list hl ?_
  refine loop_walk J (Walks.list hh s.heap.objs.size ax (Nat.ne_of_lt hlt) its) (fun i h st => by obtain ⟨o, e, _⟩ := st.1; exact ⟨o, e⟩) LCg.list_st (fun i s' v Q' E' st h => letGo_listiter st.1 h) (Nat.ne_of_lt F.ns.lt) (next_is_new F)
    ⟨⟨_, Heap.get?_push_size _ rfl, rfl, rfl⟩, hl.push _⟩ (F.push _) (fun p hp => ⟨Heap.get?_push_of_some _ (N p hp).1, (N p hp).2⟩) (fun p hp => Nat.ne_of_lt (Heap.lt_size (N p hp).1)) (src _ _ _ h0) h0 ?_ (fun m₁ nx h tk => done m₁ nx h tk) hE
  rintro i v oI m₁ nx h tk hi hv hJ - F₁ N₁ off
  exact wpAny_mono (turn i v _ oI m₁ nx h tk hv hJ F₁ N₁ off) (fun _ s₂ h₂ => wpAny_mono h₂ (fun f s₃ h₃ => TPost.mono (fun m nx hj => ⟨hj, src _ _ _ hj⟩) h₃) fun _ _ e => e) fun _ _ e => e
noncomputable def TKN {σ : Type} (Led : Nat → σ → List (Addr × Obj)) (ps : Nat → σ → List (Str × Value)) (Facts : Nat → σ → Prop) (x : Str) (stored : List Str) (m₀ : Str → Option Value) (i : Nat) : (Str → Option Value) → List (Addr × Obj) → Prop :=
  KstS (Led i) (ps i) (Facts i) x stored m₀ (fun _ _ => True) []
theorem tkn_end {σ : Type} {L : Addr} {Led : Nat → σ → List (Addr × Obj)} {ps : Nat → σ → List (Str × Value)} {Facts : Nat → σ → Prop} {x : Str} {stored : List Str} {m₀ m' : Str → Option Value} {i : Nat} {own : Addr × Obj} {s₁ : Shared} {h' : Heap} {tk : Nat} {news' : List (Addr × Obj)} (c : σ)
    (F : Fr h₀ L h' m') (N : News h₀ L h' news') (hsub : ∀ p ∈ Led i c, p ∈ news') (hown : own ∈ news') (hne : ∀ p ∈ Led i c, p.1 ≠ own.1) (hf : Facts i c) (hk : ∀ p ∈ ps i c, m' p.1 = some p.2) (hr : ∀ z, z ≠ x → (∀ p ∈ ps i c, z ≠ p.1) → stored.contains z = false → m' z = m₀ z) :
    TEnd h₀ L (TKN Led ps Facts x stored m₀ i) own s₁ { s₁ with heap := h', toks := tk } :=
  ⟨⟨h', tk, m', news', Led i c, rfl, F, N, hsub, hown, hne, ⟨c, rfl, hf, hk, hr, trivial⟩⟩⟩
theorem range_loopK {σ : Type} {x : Str} {px : Pos} {r : Addr} {a b : Int} {t u v : Tok} {n : Nat} {m₀ : Str → Option Value} (Led : Nat → σ → List (Addr × Obj)) (ps : Nat → σ → List (Str × Value)) (Facts : Nat → σ → Prop) (stored : List Str) (c₀ : σ)
    (hh : A.handled = none) (hr : IsRange s.heap r a b 1 t u v) (hsmall : Builtin.Range.small a b 1 = true) (hn : Builtin.Range.rangeSize a b 1 = (n : Int)) (F : Fr h₀ env.locals s.heap m₀) (N : News h₀ env.locals s.heap (Led 0 c₀)) (hf : Facts 0 c₀) (hk : ∀ p ∈ ps 0 c₀, m₀ p.1 = some p.2)
    (turn : ∀ (c : σ) (i : Nat) (t : Tok) (I : Addr) (oI : Obj) (u : Str → Option Value) h tk, i < n → Facts i c → (∀ p ∈ Led i c, p.1 ≠ I) → Fr h₀ env.locals h (fun y => if y = x then u y else kstB (fun z => if stored.contains z then u z else m₀ z) (ps i c) y) → News h₀ env.locals h ((I, oI) :: Led i c) →
      wpAny (model prog w) A (assign (.Name x px) env (.int (a + (i : Nat)) t)) (fun _ s₂ => wpAny (model prog w) A (execs body env) (TPost h₀ env.locals (TKN Led ps Facts x stored m₀ (i + 1)) (I, oI) { s with heap := h, toks := tk } Q) E s₂) E { s with heap := h, toks := tk })
    (done : ∀ (c : σ) (u : Str → Option Value) h tk, Facts n c → Fr h₀ env.locals h (fun y => if y = x then u y else kstB (fun z => if stored.contains z then u z else m₀ z) (ps n c) y) → News h₀ env.locals h (Led n c) → wpAny (model prog w) A (execs orelse env) Q E { s with heap := h, toks := tk })
    (hE : PassesOwn (model prog w) A env E := by passes_own) :
    wpAny (model prog w) A (pyIter (.ref r)) (fun it s₂ => MyLoop prog w A (.Name x px) body orelse env Q E it s₂) E s := by
  refine range_loop (TKN Led ps Facts x stored m₀) hh hr hsmall hn F N ⟨c₀, rfl, hf, hk, fun _ _ _ _ => rfl, trivial⟩ ?_ ?_ hE
  · rintro i t I oI m₁ nx h tk hi ⟨c, rfl, hf, hk, hr, -⟩ F N off
    exact turn c i t I oI m₁ h tk hi hf off (kst_frOut hk hr F) N
  · rintro m₁ nx h tk ⟨c, rfl, hf, hk, hr, -⟩ F N
    exact done c m₁ h tk hf (kst_frOut hk hr F) N
theorem list_loopK {σ : Type} {ax : Addr} {its : Array Value} {k : Nat} {m₀ : Str → Option Value} (x : Str) (Led : Nat → σ → List (Addr × Obj)) (ps : Nat → σ → List (Str × Value)) (Facts : Nat → σ → Prop) (stored : List Str) (c₀ : σ)
    (hh : A.handled = none) (hS : ∀ i c, Facts i c → (ax, ({ cls := .type "list", data := .seq its k } : Obj)) ∈ Led i c) (F : Fr h₀ env.locals s.heap m₀) (N : News h₀ env.locals s.heap (Led 0 c₀)) (hf : Facts 0 c₀) (hk : ∀ p ∈ ps 0 c₀, m₀ p.1 = some p.2)
    (turn : ∀ (c : σ) (i : Nat) (v : Value) (I : Addr) (oI : Obj) (u : Str → Option Value) h tk, its[i]? = some v → Facts i c → (∀ p ∈ Led i c, p.1 ≠ I) → Fr h₀ env.locals h (fun y => if y = x then u y else kstB (fun z => if stored.contains z then u z else m₀ z) (ps i c) y) → News h₀ env.locals h ((I, oI) :: Led i c) →
      wpAny (model prog w) A (assign target env v) (fun _ s₂ => wpAny (model prog w) A (execs body env) (TPost h₀ env.locals (TKN Led ps Facts x stored m₀ (i + 1)) (I, oI) { s with heap := h, toks := tk } Q) E s₂) E { s with heap := h, toks := tk })
    (done : ∀ (c : σ) (u : Str → Option Value) h tk, Facts its.size c → Fr h₀ env.locals h (fun y => if y = x then u y else kstB (fun z => if stored.contains z then u z else m₀ z) (ps its.size c) y) → News h₀ env.locals h (Led its.size c) → wpAny (model prog w) A (execs orelse env) Q E { s with heap := h, toks := tk })
    (hE : PassesOwn (model prog w) A env E := by passes_own) :
    wpAny (model prog w) A (pyIter (.ref ax)) (fun it s₂ => MyLoop prog w A target body orelse env Q E it s₂) E s := by
  refine list_loop (TKN Led ps Facts x stored m₀) hh rfl rfl F N (fun i m nx ⟨c, e, hf, _⟩ => e ▸ hS i c hf) ⟨c₀, rfl, hf, hk, fun _ _ _ _ => rfl, trivial⟩ ?_ ?_ hE
  · rintro i v I oI m₁ nx h tk hi ⟨c, rfl, hf, hk, hr, -⟩ F N off
    exact turn c i v I oI m₁ h tk hi hf off (kst_frOut hk hr F) N
  · rintro m₁ nx h tk ⟨c, rfl, hf, hk, hr, -⟩ F N
    exact done c m₁ h tk hf (kst_frOut hk hr F) N
/-- a list's turns, one by one -/
noncomputable def ListRest (prog : Program) (w : World) (A : Around) (h₀ : Heap) (target : Expr) (body orelse : List Stmt) (env : Env) (Q : Flow → Shared → Prop) (E : Value → Shared → Prop) (s : Shared) (ax : Addr) (lo : Obj) : List Value → (Str → Option Value) → List (Addr × Obj) → Prop
  | [], m, nx => (ax, lo) ∈ nx ∧ ∀ h tk, Fr h₀ env.locals h m → News h₀ env.locals h nx → wpAny (model prog w) A (execs orelse env) Q E { s with heap := h, toks := tk }
  | v :: r, m, nx => (ax, lo) ∈ nx ∧ ∀ I oI h tk, Fr h₀ env.locals h m → News h₀ env.locals h ((I, oI) :: nx) → (∀ p ∈ nx, p.1 ≠ I) →
      wpAny (model prog w) A (assign target env v) (fun _ s₂ => wpAny (model prog w) A (execs body env) (TPost h₀ env.locals (ListRest prog w A h₀ target body orelse env Q E s ax lo r) (I, oI) { s with heap := h, toks := tk } Q) E s₂) E { s with heap := h, toks := tk }
theorem ListRest.mem {ax : Addr} {lo : Obj} {vs : List Value} {m : Str → Option Value} {nx : List (Addr × Obj)} (h : ListRest prog w A h₀ target body orelse env Q E s ax lo vs m nx) : (ax, lo) ∈ nx := by
  cases vs with
  | nil => exact h.1
  | cons _ _ => exact h.1
theorem list_turns {ax : Addr} {vs : List Value} {k : Nat} {m : Str → Option Value} {news : List (Addr × Obj)}
    (hh : A.handled = none) (F : Fr h₀ env.locals s.heap m) (N : News h₀ env.locals s.heap news) (h : ListRest prog w A h₀ target body orelse env Q E s ax { cls := .type "list", data := .seq vs.toArray k } vs m news)
    (hE : PassesOwn (model prog w) A env E := by passes_own) :
    wpAny (model prog w) A (pyIter (.ref ax)) (fun it s₂ => MyLoop prog w A target body orelse env Q E it s₂) E s := by
  have key : ∀ g, wpAny (model prog w) A (pyIter (.ref ax)) (fun it s₂ => MyLoop prog w A target body orelse env Q E it s₂) E { s with heap := g } → g = s.heap → wpAny (model prog w) A (pyIter (.ref ax)) (fun it s₂ => MyLoop prog w A target body orelse env Q E it s₂) E s := fun g h e => by subst e; exact h
  refine list_loop (lo := { cls := .type "list", data := .seq vs.toArray k }) (fun i m nx => ListRest prog w A h₀ target body orelse env Q E s ax { cls := .type "list", data := .seq vs.toArray k } (vs.drop i) m nx) hh rfl rfl F N (fun i m nx hj => hj.mem) (by simpa using h) ?_ ?_ hE
  · intro i v I oI m₁ nx h tk hv hJ F₁ N₁ off
    have hv' : vs[i]? = some v := by simpa using hv
    have e : vs.drop i = v :: vs.drop (i + 1) := by
      have hl : i < vs.length := by
        rcases Nat.lt_or_ge i vs.length with h | h
        · exact h
        · rw [List.getElem?_eq_none h] at hv'; cases hv'
      rw [List.drop_eq_getElem_cons hl]
      rw [List.getElem?_eq_getElem hl] at hv'
      rw [Option.some.inj hv']
    rw [e] at hJ
    exact hJ.2 I oI h tk F₁ N₁ off
  · intro m₁ nx h tk hJ F₁ N₁
    rw [List.size_toArray, List.drop_length] at hJ
    exact hJ.2 h tk F₁ N₁
theorem tend_at {L : Addr} {J : (Str → Option Value) → List (Addr × Obj) → Prop} {own : Addr × Obj} {s₁ : Shared} {h' : Heap} {tk : Nat} {m' : Str → Option Value} {pre nx : List (Addr × Obj)}
    (F : Fr h₀ L h' m') (N : News h₀ L h' (pre ++ own :: nx)) (hne : ∀ p ∈ pre ++ nx, p.1 ≠ own.1) (hJ : J m' (pre ++ nx)) : TEnd h₀ L J own s₁ { s₁ with heap := h', toks := tk } :=
  ⟨⟨h', tk, m', pre ++ own :: nx, pre ++ nx, rfl, F, N, fun p hp => (List.mem_append.mp hp).elim (fun q => List.mem_append_left _ q) (fun q => List.mem_append_right _ (.tail _ q)), List.mem_append_right _ (.head _), hne, hJ⟩⟩
end
end Mine
end
section
local macro_rules | `(tactic| k_room) => `(tactic| ktr_room)
section
namespace Mine
noncomputable def unseenCode (n : Int) : Nat := if n.fmod 27 < 16 then (65024 + n.fmod 27).toNat else ([173, 847, 6150, 6155, 6156, 6157, 8203, 8204, 8205, 8288, 65279].getD (n.fmod 27 - 16).toNat (0 : Int)).toNat
noncomputable def unseenS (n : Int) : Str := Str.mk #[unseenCode n]
noncomputable def besideCode (n : Int) : Nat := ([172, 174, 846, 848, 6149, 6151, 6154, 6158, 8202, 8206, 8287, 8289, 65023, 65040, 65278, 65280].getD (n.fmod 16).toNat (0 : Int)).toNat
noncomputable def besideS (n : Int) : Str := Str.mk #[besideCode n]

local macro_rules | `(tactic| walk_at "call builtin:chr") => `(tactic| (refine chr_of_range (menu (P := fun x => 0 ≤ x) (by decide) (by decide) _) (menu (P := fun x => x ≤ 1114111) (by decide) (by decide) _) ?_))
theorem unseen_spec (w : World) (n : Int) (tk : Tok) (h0 : 0 ≤ n) (news : List (Addr × Obj)) : Spec 1 w (.ref 287) [.int n tk] [] news (fun v news' => ∃ t, v = .str (unseenS n) t ∧ news' = news) := by
  have zz : (fun (_ : Params → Frag) (_ : OpenLaw) => True) K PySem.Challenge.rw_sn0070_01 := by k_fill; trivial
  clear zz
  unfold Spec
  intros
  rename_i hret
  refine wpAny_call ?_
  k_dflt k_enter
  k_steps
  · exact hret _ _ _ _ ⟨_, by rw [unseenS, unseenCode, if_pos (by assumption)], rfl⟩ (by k_asm) (by k_asm)
  · exact hret _ _ _ _ ⟨_, by rw [unseenS, unseenCode, if_neg (by omega)], rfl⟩ (by k_asm) (News.tail' (by k_asm))
theorem beside_spec (w : World) (n : Int) (tk : Tok) (h0 : 0 ≤ n) (news : List (Addr × Obj)) : Spec 1 w (.ref 294) [.int n tk] [] news (fun v news' => ∃ t, v = .str (besideS n) t ∧ news' = news) := by
  have zz : (fun (_ : Params → Frag) (_ : OpenLaw) => True) K PySem.Challenge.rw_sn0070_01 := by k_fill; trivial
  clear zz
  unfold Spec
  intros
  rename_i hret
  refine wpAny_call ?_
  k_dflt k_enter
  k_steps
  · exact hret _ _ _ _ ⟨_, by rw [besideS, besideCode], rfl⟩ (by k_asm) (News.tail' (by k_asm))
end Mine
end
section
namespace Mine
noncomputable def namesL : List Str := [Str.ofString "OPTIMIZED", Str.ofString "NEWLOCALS", Str.ofString "VARARGS", Str.ofString "VARKEYWORDS", Str.ofString "NESTED", Str.ofString "GENERATOR", Str.ofString "NOFREE", Str.ofString "COROUTINE",
  Str.ofString "ITERABLE_COROUTINE", Str.ofString "ASYNC_GENERATOR", Str.ofString "0x400", Str.ofString "0x80000000", Str.ofString "0x900000000"]
noncomputable def nameS (n : Int) : Str := namesL.getD n.toNat Str.empty
noncomputable def flagI (n : Int) : Int := if n < 11 then 2 ^ n.toNat else if n = 11 then 2 ^ 31 else 2 ^ 32 + 2 ^ 35
theorem name_spec (w : World) (n : Int) (tk : Tok) (h0 : 0 ≤ n) (h1 : n < 13) (news : List (Addr × Obj)) : Spec 1 w (.ref 313) [.int n tk] [] news (fun v news' => ∃ t, v = .str (nameS n) t ∧ news' = news) := by
  have zz : (fun (_ : Params → Frag) (_ : OpenLaw) => True) K PySem.Challenge.rw_sn0070_01 := by k_fill; trivial
  clear zz
  unfold Spec
  intros
  rename_i hret
  refine wpAny_call ?_
  k_dflt k_enter
  k_steps
  · exact hret _ _ _ _ ⟨_, rfl, rfl⟩ (by k_asm) (cb_drop (by k_asm) (by kcj_all))
theorem flag_spec (w : World) (n : Int) (tk : Tok) (h0 : 0 ≤ n) (h1 : n < 13) (news : List (Addr × Obj)) : Spec 1 w (.ref 320) [.int n tk] [] news (fun v news' => ∃ t, v = .int (flagI n) t ∧ news' = news) := by
  have zz : (fun (_ : Params → Frag) (_ : OpenLaw) => True) K PySem.Challenge.rw_sn0070_01 := by k_fill; trivial
  clear zz
  unfold Spec
  intros
  rename_i hret
  refine wpAny_call ?_
  k_dflt k_enter
  k_steps
  · exact hret _ _ _ _ ⟨_, by rw [flagI, if_pos (by assumption)], rfl⟩ (by k_asm) (by k_asm)
  · exact hret _ _ _ _ ⟨_, by rw [flagI, if_neg (by omega), if_pos (by omega)]; rfl, rfl⟩ (by k_asm) (by k_asm)
  · exact hret _ _ _ _ ⟨_, by rw [flagI, if_neg (by omega), if_neg (by omega)]; rfl, rfl⟩ (by k_asm) (by k_asm)
end Mine
end
section
namespace Mine
noncomputable def b1P : List (Int × Nat) := [(65024, 350), (65025, 351), (65026, 352), (65027, 353), (65028, 354), (65029, 355), (6150, 336), (65030, 356), (65031, 357), (65032, 358), (65033, 359), (6155, 337), (6156, 338), (6157, 339), (8203, 340), (8204, 341), (8205, 342), (65034, 360), (65035, 361), (65036, 362), (65037, 363), (65038, 364), (65039, 365), (173, 334), (847, 335), (8288, 343), (65279, 344)]
noncomputable def b1L : List Int := b1P.map (·.1)
noncomputable def isB1 (c : Int) : Bool := decide (c ∈ b1L)
theorem b1_obj (w : World) : (n54_p1 w.params).SetObjOf (intKind PySem.Challenge.rw_sn0070_01.row.prog w) isB1 27 := by
  refine ⟨⟨rfl, rfl, rfl⟩, (b1P.map fun p => (hashInt p.1, Value.int p.1 p.2)).toArray, 29, ⟨127, #[0, 1, 2, 3, 4, 5, 6, 7, 8, 9, 10, 11, 12, 13, 14, 15, 16, 17, 18, 19, 20, 21, 22, 45, 79, 96, 127], #[], 0, (!w.params.followText "set-order"), 2, true⟩, (by kernel_rfl), ?_, ?_, (by kernel_rfl), (by kernel_rfl)⟩
  · intro e he
    rw [List.toList_toArray] at he
    obtain ⟨p, _, rfl⟩ := List.mem_map.mp he
    exact ⟨⟨p.1, intKind_is _ _ _ _, rfl⟩, rfl⟩
  · intro k
    rw [List.toList_toArray, isB1, decide_eq_true_iff, b1L, List.mem_map]
    constructor
    · rintro ⟨p, hp, rfl⟩
      exact ⟨_, List.mem_map.mpr ⟨p, hp, rfl⟩, intKind_is _ _ _ _⟩
    · rintro ⟨e, he, hk⟩
      obtain ⟨p, hp, rfl⟩ := List.mem_map.mp he
      obtain ⟨t, ht⟩ := Value.isInt_shape (show Value.isInt k (Value.int p.1 p.2) = true from hk)
      exact ⟨p, hp, by injection ht⟩
theorem b1_in {w : World} {A : Around} {E : Value → Shared → Prop} {s : Shared} {h₀ : Heap} {L : Addr} {m : Str → Option Value} {c : Int} {t : Tok} {Q : Value → Shared → Prop} (X : (K w.params).In h₀) (F : Fr h₀ L s.heap m) (h : Q (.bool (isB1 c)) { s with toks := s.toks + 1 }) :
    wpAny (model PySem.Challenge.rw_sn0070_01.row.prog w) A (compareOp .In (.int c t) (.ref 54)) Q E s :=
  wpAny_inSet_of (knd := intKind _ w) (intKind_is _ _ _ _) rfl ((b1_obj w).setOf (F.keep _ _ (X 54 _ (by kernel_rfl))) (by decide)) h
local macro_rules | `(tactic| walk_at "compareOp In int ref") => `(tactic| (k_here; k_dflt (refine b1_in (by k_asm) (by k_asm) ?_); (try dsimp only)))
theorem b1_spec (w : World) (c : Nat) (tk : Tok) (news : List (Addr × Obj)) : Spec 1 w (.ref 64) [.str (Str.mk #[c]) tk] [] news (fun v news' => v = .bool (isB1 c) ∧ news' = news) := by
  have zz : (fun (_ : Params → Frag) (_ : OpenLaw) => True) K PySem.Challenge.rw_sn0070_01 := by k_fill; trivial
  clear zz
  unfold Spec
  intros
  rename_i hret
  refine wpAny_call ?_
  k_dflt k_enter
  k_steps
  · exact hret _ _ _ _ ⟨rfl, rfl⟩ (by k_asm) (by k_asm)
end Mine
end
section
namespace Mine
local macro_rules | `(tactic| walk_at "call ref") => `(tactic| (k_here; (show wpAny _ _ (call (Value.ref 64) [Value.str _ _] _) _ _ _); k_dflt (refine' Spec.use ?B1 ?F1 ?X1 ?N1 ?T1 (b1_spec _ _ _ _) ?D1 ?U1 ?_; (case B1 => k_asm); (case F1 => k_asm); (case X1 => k_asm); (case N1 => k_asm); (case T1 => k_asm); (case D1 => ktr_room); (case U1 => ktr_units); k_whole); intro v9 n9 h9 tk9 hP9 F9 N9; obtain ⟨e8, e9⟩ := hP9; subst e8; subst e9; (try dsimp only); (try k_fold)))
noncomputable def cleanS (pre : List Int) : Str := ⟨((pre.filter (fun c => !isB1 c)).map Int.toNat).toArray⟩
theorem clean_keep {pre : List Int} {left : Str} {c : Nat} (hb : (isB1 c == false) = true) (h1 : left = cleanS pre) (h2 : left.length ≤ pre.length) :
    left ++ (⟨#[c]⟩ : Str) = cleanS (pre ++ [(c : Int)]) ∧ (left ++ (⟨#[c]⟩ : Str)).length ≤ (pre ++ [(c : Int)]).length := by
  have hb' : isB1 c = false := by simpa using hb
  subst h1
  constructor
  · refine Str.ext' ?_
    simp [cleanS, hb', Str.cps_append]
  · rw [Str.length_append, List.length_append]
    exact Nat.add_le_add h2 (Nat.le_refl _)
theorem clean_drop {pre : List Int} {left : Str} {c : Nat} (hb : (isB1 c == true) = true) (h1 : left = cleanS pre) (h2 : left.length ≤ pre.length) :
    left ++ Str.ofString "" = cleanS (pre ++ [(c : Int)]) ∧ (left ++ Str.ofString "").length ≤ (pre ++ [(c : Int)]).length := by
  have hb' : isB1 c = true := by simpa using hb
  have e0 : Str.ofString "" = ⟨#[]⟩ := by decide +kernel
  subst h1
  constructor
  · refine Str.ext' ?_
    simp [cleanS, hb', Str.cps_append, e0]
  · rw [Str.length_append, List.length_append, e0]
    exact Nat.add_le_add h2 (Nat.zero_le _)
theorem clean_spec (w : World) (x : Str) (hx : x.length ≤ 100) (tk : Tok) (news : List (Addr × Obj)) : Spec 2 w (.ref 301) [.str x tk] [] news (fun v news' => ∃ t, v = .str (cleanS (KStt.codes x)) t ∧ news' = news) := by
  have zz : (fun (_ : Params → Frag) (_ : OpenLaw) => True) K PySem.Challenge.rw_sn0070_01 := by k_fill; trivial
  clear zz
  unfold Spec
  intros
  rename_i hret
  refine wpAny_call ?_
  k_dflt k_enter
  k_with "pyIter str" => k_state (fun pre left => left = cleanS pre ∧ left.length ≤ pre.length) "left"
  k_with "state" => first | exact clean_keep (by assumption) (by assumption) (by assumption) | exact clean_drop (by assumption) (by assumption) (by assumption)
  k_steps
  · rename_i hA hB _ _ _ _
    subst hA
    exact hret _ _ _ _ ⟨_, rfl, rfl⟩ (by k_asm) (by k_asm)
end Mine
end
section
namespace Mine
structure WS where
  n : Int
  nt : Int
  b : Int
  cs : List Int
noncomputable def wsGrow (cs : List Int) (b : Int) : List Int := cs ++ (List.replicate (b - (cs.length : Int) + 1).toNat [(0 : Int)]).flatten
noncomputable def wsPut (cs : List Int) (b : Int) : List Int := cs.set b.toNat (cs.getD b.toNat 0 + 1)
noncomputable def wsStep (s : WS) (c : Nat) : WS :=
  if c = 32 then ⟨s.n + 1, s.nt, s.b + 1, s.cs⟩
  else if (s.cs.length : Int) ≤ s.b then ⟨s.n + 1, s.nt + 1, 0, wsPut (wsGrow s.cs s.b) s.b⟩
  else ⟨s.n + 1, s.nt + 1, 0, wsPut s.cs s.b⟩
noncomputable def wsRun (l : List Nat) : WS := l.foldl wsStep ⟨0, 0, 0, []⟩
noncomputable def isWs (c : Nat) : Bool := c == 32 || c == 9
/-- what a turn of the loop keeps -/
structure WsSt where
  tn : Tok
  tnt : Tok
  tb : Tok
  cl : Addr
  us : List Value
  ep : Nat
noncomputable def wsLed (base : List (Addr × Obj)) (_ : List Nat) (c : WsSt) : List (Addr × Obj) := (c.cl, listOf c.us.toArray c.ep) :: base
noncomputable def wsNames (pre : List Nat) (c : WsSt) : List (Str × Value) := [(Str.ofString "n", .int (wsRun pre).n c.tn), (Str.ofString "nt", .int (wsRun pre).nt c.tnt), (Str.ofString "b", .int (wsRun pre).b c.tb), (Str.ofString "count", .ref c.cl)]
noncomputable def wsFacts (base : List (Addr × Obj)) (pre : List Nat) (c : WsSt) : Prop := IntsAre c.us (wsRun pre).cs ∧ (∀ x ∈ pre, isWs x = true) ∧ pre.length ≤ 100 ∧ AllLt c.cl base
section
variable {prog : Program} {w : World} {A : Around} {E : Value → Shared → Prop} {s : Shared} {env : Env} {h₀ : Heap} {x : Str} {body : List Stmt} {Q : Flow → Shared → Prop}
noncomputable abbrev wsTK (base : List (Addr × Obj)) (x : Str) (m₀ : Str → Option Value) (pre : List Nat) := TK (wsLed base) wsNames (wsFacts base) x [] m₀ pre
noncomputable abbrev wsMap (x : Str) (m₀ u : Str → Option Value) (pre : List Nat) (c : WsSt) (v : Option Value) : Str → Option Value := fun y => if y = x then v else kstB (fun z => if ([] : List Str).contains z then u z else m₀ z) [(Str.ofString "n", .int (wsRun pre).n c.tn), (Str.ofString "nt", .int (wsRun pre).nt c.tnt), (Str.ofString "b", .int (wsRun pre).b c.tb), (Str.ofString "count", .ref c.cl)] y
theorem ws_loop {xt : Str} {tx : Tok} {m₀ : Str → Option Value} {base : List (Addr × Obj)} {cl : Addr} {tk : Tok}
    (hh : A.handled = none) (F : Fr h₀ env.locals s.heap m₀) (N : News h₀ env.locals s.heap ((cl, listOf #[] 0) :: base)) (hlt : AllLt cl base)
    (h1 : m₀ (Str.ofString "n") = some (.int 0 tk)) (h2 : m₀ (Str.ofString "nt") = some (.int 0 tk)) (h3 : m₀ (Str.ofString "b") = some (.int 0 tk)) (h4 : m₀ (Str.ofString "count") = some (.ref cl))
    (turn : ∀ (c : WsSt) (pre post : List Nat) (n : Nat) t (u : Str → Option Value) h tk (I : Addr) (oI : Obj), xt.cps.toList = pre ++ n :: post → I ≠ c.cl → (∀ r ∈ base, r.1 ≠ I) → wsFacts base pre c →
      Fr h₀ env.locals h (wsMap x m₀ u pre c (some (.str ⟨#[n]⟩ t))) → News h₀ env.locals h ((I, oI) :: (c.cl, listOf c.us.toArray c.ep) :: base) →
      wpAny (model prog w) A (execs body env) (TPost h₀ env.locals (wsTK base x m₀ (pre ++ [n])) (I, oI) { s with heap := h, toks := tk } Q) E { s with heap := h, toks := tk })
    (done : ∀ (c : WsSt) (u : Str → Option Value) h tk, wsFacts base xt.cps.toList c → Fr h₀ env.locals h (wsMap x m₀ u xt.cps.toList c (u x)) → News h₀ env.locals h ((c.cl, listOf c.us.toArray c.ep) :: base) → Q .next { s with heap := h, toks := tk }) :
    wpAny (model prog w) A (pyIter (.str xt tx)) (fun it s₂ => LoopAtV prog w A h₀ env x body Q E it s₂) E s := by
  refine text_loopK (wsLed base) wsNames (wsFacts base) [] ⟨tk, tk, tk, cl, [], 0⟩ hh F N ⟨IntsAre.nil, nil_all, Nat.zero_le _, hlt⟩ ?_ ?_ ?_
  · exact List.forall_mem_cons.mpr ⟨h1, List.forall_mem_cons.mpr ⟨h2, List.forall_mem_cons.mpr ⟨h3, List.forall_mem_cons.mpr ⟨h4, nil_all⟩⟩⟩⟩
  · rintro c pre post n t u h tk ⟨I, oI⟩ hcs hne hf F N
    exact turn c pre post n t u h tk I oI hcs (fun q => hne _ (.head _) q.symm) (fun r hr => hne r (.tail _ hr)) hf F N
  · intro c u h tk hf F N
    refine done c u h tk hf ?_ N
    have e : (fun y => if y = x then u y else kstB (fun z => if ([] : List Str).contains z then u z else m₀ z) (wsNames xt.cps.toList c) y) = wsMap x m₀ u xt.cps.toList c (u x) := by
      funext y
      by_cases hy : y = x
      · rw [if_pos hy, hy]; simp [wsMap]
      · rw [if_neg hy]; simp only [wsMap, if_neg hy]; rfl
    rw [← e]
    exact F
end
theorem wsRun_snoc (l : List Nat) (c : Nat) : wsRun (l ++ [c]) = wsStep (wsRun l) c := by simp [wsRun, List.foldl_append]
theorem wsGrow_length (cs : List Int) (b : Int) : (wsGrow cs b).length = cs.length + (b - (cs.length : Int) + 1).toNat := by
  simp [wsGrow]
theorem wsPut_length (cs : List Int) (b : Int) : (wsPut cs b).length = cs.length := by simp [wsPut]
theorem wsRun_bounds : ∀ l : List Nat, 0 ≤ (wsRun l).b ∧ (wsRun l).b ≤ l.length ∧ (wsRun l).cs.length ≤ l.length ∧ 0 ≤ (wsRun l).n ∧ (wsRun l).n ≤ l.length ∧ 0 ≤ (wsRun l).nt ∧ (wsRun l).nt ≤ l.length := by
  intro l
  induction h : l.length generalizing l with
  | zero =>
    cases l with
    | nil => simp [wsRun]
    | cons _ _ => cases h
  | succ k ih =>
    rcases List.eq_nil_or_concat l with rfl | ⟨l', c, rfl⟩
    · cases h
    · have hl : l'.length = k := by simpa using h
      obtain ⟨a1, a2, a3, a4, a5, a6, a7⟩ := ih l' hl
      rw [List.concat_eq_append, wsRun_snoc]
      unfold wsStep
      by_cases hc : c = 32
      · simp only [hc, if_true]; omega
      · by_cases hb : ((wsRun l').cs.length : Int) ≤ (wsRun l').b
        · simp only [hc, hb, if_true, if_false, wsPut_length, wsGrow_length]; omega
        · simp only [hc, hb, if_false, wsPut_length]; omega
theorem code_eq {n c : Nat} {y : String} (hy : Str.ofString y = ⟨#[c]⟩) (h : (({ cps := #[n] } : Str) == Str.ofString y) = true) : n = c := by
  rw [hy] at h
  have := beq_iff_eq.mp h
  simpa using this
theorem code_ne {n c : Nat} {y : String} (hy : Str.ofString y = ⟨#[c]⟩) (h : (({ cps := #[n] } : Str) == Str.ofString y) = false) : n ≠ c := by
  rw [hy] at h
  rintro rfl
  simp at h
theorem sp_is : Str.ofString " " = ⟨#[32]⟩ := by decide +kernel
theorem tab_is : Str.ofString "\t" = ⟨#[9]⟩ := by decide +kernel
theorem take_at {pre post : List Nat} {n : Nat} (h : ∀ x ∈ pre, isWs x = true) (hn : isWs n = false) : (pre ++ n :: post).takeWhile isWs = pre := by
  induction pre with
  | nil => simp [List.takeWhile, hn]
  | cons a r ih => simp [List.takeWhile, h a (.head _), ih fun x hx => h x (.tail _ hx)]
theorem take_all {l : List Nat} (h : ∀ x ∈ l, isWs x = true) : l.takeWhile isWs = l := by
  induction l with
  | nil => rfl
  | cons a r ih => simp [List.takeWhile, h a (.head _), ih fun x hx => h x (.tail _ hx)]
theorem wsMap_off {x : Str} {m₀ u : Str → Option Value} {pre : List Nat} {c : WsSt} {v : Option Value} {z : Str} (h0 : z ≠ x) (h1 : z ≠ Str.ofString "n") (h2 : z ≠ Str.ofString "nt") (h3 : z ≠ Str.ofString "b") (h4 : z ≠ Str.ofString "count") : wsMap x m₀ u pre c v z = m₀ z := by
  simp [wsMap, kstB, h0, h1, h2, h3, h4]
theorem ws_end {h₀ : Heap} {L : Addr} {x : Str} {m₀ m' : Str → Option Value} {base news' : List (Addr × Obj)} {pre : List Nat} {n : Nat} {own : Addr × Obj} {s₁ : Shared} {h' : Heap} {tk : Nat} {n1 nt1 b1 : Int} {cs1 us1 tn tnt tb cl ep}
    (F : Fr h₀ L h' m') (N : News h₀ L h' news') (hown : own ∈ news') (hcl : (cl, listOf (List.toArray us1) ep) ∈ news') (hsub : ∀ p ∈ base, p ∈ news') (hne : cl ≠ own.1) (hbase : ∀ r ∈ base, r.1 ≠ own.1)
    (hrun : wsRun (pre ++ [n]) = ⟨n1, nt1, b1, cs1⟩) (hI : IntsAre us1 cs1) (hws : ∀ x ∈ pre, isWs x = true) (hn : isWs n = true) (hlen : pre.length < 100) (hlt : AllLt cl base)
    (h1 : m' (Str.ofString "n") = some (.int n1 tn)) (h2 : m' (Str.ofString "nt") = some (.int nt1 tnt)) (h3 : m' (Str.ofString "b") = some (.int b1 tb)) (h4 : m' (Str.ofString "count") = some (.ref cl))
    (hr : ∀ z, z ≠ x → z ≠ Str.ofString "n" → z ≠ Str.ofString "nt" → z ≠ Str.ofString "b" → z ≠ Str.ofString "count" → m' z = m₀ z) :
    TEnd h₀ L (wsTK base x m₀ (pre ++ [n])) own s₁ { s₁ with heap := h', toks := tk } := by
  refine ⟨⟨h', tk, m', news', (cl, listOf (List.toArray us1) ep) :: base, rfl, F, N, ?_, hown, ?_, ⟨⟨tn, tnt, tb, cl, us1, ep⟩, rfl, ⟨?_, ?_, ?_, hlt⟩, ?_, ?_, trivial⟩⟩⟩
  · intro p hp
    rcases List.mem_cons.mp hp with rfl | hp
    · exact hcl
    · exact hsub p hp
  · intro p hp
    rcases List.mem_cons.mp hp with rfl | hp
    · exact hne
    · exact hbase p hp
  · rw [hrun]; exact hI
  · intro y hy
    rcases List.mem_append.mp hy with h | h
    · exact hws y h
    · rw [List.mem_singleton.mp h]; exact hn
  · rw [List.length_append]; exact hlen
  · unfold wsNames
    rw [hrun]
    exact List.forall_mem_cons.mpr ⟨h1, List.forall_mem_cons.mpr ⟨h2, List.forall_mem_cons.mpr ⟨h3, List.forall_mem_cons.mpr ⟨h4, nil_all⟩⟩⟩⟩
  · intro z hz hp _
    have p1 := hp _ (.head _)
    have p2 := hp _ (.tail _ (.head _))
    have p3 := hp _ (.tail _ (.tail _ (.head _)))
    have p4 := hp _ (.tail _ (.tail _ (.tail _ (.head _))))
    exact hr z hz p1 p2 p3 p4
noncomputable abbrev dE (w : World) (k : String) (t : Tok) (v : Value) : DictEntry := ⟨PyData.keyHash w.params (Str.ofString k), .str (Str.ofString k) t, v⟩
noncomputable def wsObjs (w : World) (x d T D : Addr) (us : List Value) (xv : Value) (n nt b : Int) (sm : Bool) (t1 t2 t3 t4 t5 tn tnt tb : Tok) : List (Addr × Obj) :=
  [(T, { cls := .type "tuple", data := .seq #[.ref D, .int b tb] }), (D, { cls := .type "tuple", data := .seq us.toArray }), (x, instObj 126 d),
   (d, dictOf [dE w "raw" t1 xv, dE w "n" t2 (.int n tn), dE w "nt" t3 (.int nt tnt), dE w "norm" t4 (.ref T), dE w "is_simple" t5 (.bool sm)] 5)]
noncomputable def wsPost (w : World) (xt : Str) (tk : Tok) (news : List (Addr × Obj)) (v : Value) (news' : List (Addr × Obj)) : Prop :=
  ∃ x d T D us sm t1 t2 t3 t4 t5 tn tnt tb, v = .ref x ∧ news' = wsObjs w x d T D us (.str xt tk) (wsRun (xt.cps.toList.takeWhile isWs)).n (wsRun (xt.cps.toList.takeWhile isWs)).nt (wsRun (xt.cps.toList.takeWhile isWs)).b sm t1 t2 t3 t4 t5 tn tnt tb ++ news ∧
    IntsAre us (wsRun (xt.cps.toList.takeWhile isWs)).cs ∧ (∀ p ∈ news, p.1 < d) ∧ d < x ∧ x < D ∧ D < T
theorem ws_back {w : World} {h₀ : Heap} {L : Addr} {h' : Heap} {m : Str → Option Value} {xt : Str} {tk : Tok} {news : List (Addr × Obj)} {Q : Value → Shared → Prop} {s : Shared} {tkk : Nat} {x d T D D2 cl : Addr} {o2 oc : Obj} {us : List Value} {sm : Bool} {t1 t2 t3 t4 t5 tn tnt tb : Tok} {pre : List Nat}
    (hret : ∀ (v : Value) (news' : List (Addr × Obj)) (h' : Heap) (tk' : Nat), wsPost w xt tk news v news' → Fr h₀ L h' m → News h₀ L h' news' → Q v { s with heap := h', toks := tk' })
    (F : Fr h₀ L h' m) (N : News h₀ L h' ((T, { cls := .type "tuple", data := .seq #[.ref D, .int (wsRun pre).b tb] }) :: (D, { cls := .type "tuple", data := .seq us.toArray.toList.toArray }) :: (cl, oc) :: (D2, o2) :: (x, instObj 126 d) ::
      (d, dictOf [dE w "raw" t1 (.str xt tk), dE w "n" t2 (.int (wsRun pre).n tn), dE w "nt" t3 (.int (wsRun pre).nt tnt), dE w "norm" t4 (.ref T), dE w "is_simple" t5 (.bool sm)] 5) :: news))
    (hp : pre = xt.cps.toList.takeWhile isWs) (hI : IntsAre us (wsRun pre).cs) (h1 : ∀ p ∈ news, p.1 < d) (h2 : d < x) (h3 : x < D) (h4 : D < T) : Q (.ref x) { s with heap := h', toks := tkk } := by
  refine hret _ _ _ _ ⟨x, d, T, D, us, sm, t1, t2, t3, t4, t5, tn, tnt, tb, rfl, rfl, hp ▸ hI, h1, h2, h3, h4⟩ F ?_
  rw [← hp]
  exact cb_drop N (fun p hp => by
    rcases List.mem_cons.mp hp with rfl | hp
    · exact .head _
    rcases List.mem_cons.mp hp with rfl | hp
    · exact .tail _ (.head _)
    rcases List.mem_cons.mp hp with rfl | hp
    · exact .tail _ (.tail _ (.tail _ (.tail _ (.head _))))
    rcases List.mem_cons.mp hp with rfl | hp
    · exact .tail _ (.tail _ (.tail _ (.tail _ (.tail _ (.head _)))))
    · exact .tail _ (.tail _ (.tail _ (.tail _ (.tail _ (.tail _ hp))))))
theorem News.without2 {h₀ : Heap} {L : Addr} {h : Heap} {a b c : Addr × Obj} {l : List (Addr × Obj)} (N : News h₀ L h (a :: b :: c :: l)) : News h₀ L h (a :: b :: l) :=
  cb_drop N (fun p hp => by
    rcases List.mem_cons.mp hp with rfl | hp
    · exact .head _
    rcases List.mem_cons.mp hp with rfl | hp
    · exact .tail _ (.head _)
    · exact .tail _ (.tail _ (.tail _ hp)))
theorem neNat {a b : Addr} (h : a ≠ b) : @Ne Nat a b := h
theorem allNe_of {news : List (Addr × Obj)} {d : Addr} (h : ∀ p ∈ news, p.1 < d) : ∀ p ∈ news, p.1 ≠ d := fun p hp => Nat.ne_of_lt (h p hp)
local macro_rules | `(tactic| k_all) => `(tactic| exact allNe_of (by assumption))
local macro_rules | `(tactic| walk_at "TPost") => `(tactic| (dsimp only [TPost]))
local macro_rules | `(tactic| walk_at "call builtin:len") => `(tactic| (k_here; (with_reducible show wpAny _ _ (call (Value.builtin "len") [Value.ref _]) _ _ _); k_dflt (refine' kst_len ?k1 ?k2 ?k3 ?k4 ?_; (case k1 => k_asm); (case k2 => k_mem); (case k3 => exact IntsAre.length (by assumption)); (case k4 => omega); k_whole)))
local macro_rules | `(tactic| walk_at "call type:tuple") => `(tactic| (k_here; (with_reducible show wpAny _ _ (call (Value.type _) [Value.ref _]) _ _ _); k_dflt (refine' kde_tupleOf ?k1 ?k2 ?k3 ?k4 ?k5 ?_; (case k1 => k_asm); (case k2 => k_asm); (case k3 => exact News.isList (by k_asm) (by k_mem)); (case k5 => exact rfl); (case k4 => (rw [List.size_toArray, IntsAre.length (by assumption)]; omega)); k_whole); intro D' h' F' N' l1; (try k_lt l1); (try k_sweep)))
theorem ws_spec (w : World) (x : Str) (hx : x.length ≤ 100) (tk : Tok) (news : List (Addr × Obj)) : Spec 3 w (.ref 126) [.str x tk] [] news (wsPost w x tk news) := by
  have zz : (fun (_ : Params → Frag) (_ : OpenLaw) => True) K PySem.Challenge.rw_sn0070_01 := by k_fill; trivial
  clear zz
  unfold Spec
  intros
  rename_i hret
  k_steps
  rename News _ _ _ _ => hN
  rename Fr _ _ _ _ => hF
  rename _ ∧ _ => hlt
  refine' ws_loop rfl hF hN hlt rfl rfl rfl rfl ?turn ?done
  case turn =>
    intro c pre post n t u h tk I oI hcs hne hne2 hf F N
    obtain ⟨hI, hws, hlen, hlt'⟩ := hf
    obtain ⟨b1, b2, b3, b4, b5, b6, b7⟩ := wsRun_bounds pre
    have hbase := hne2
    have hltb := hlt'
    have hpl : pre.length < 100 := by have := congrArg List.length hcs; simp at this; have h8 : x.length = x.cps.size := rfl; omega
    have hne2 := (List.forall_mem_cons.mp hne2)
    have hne3 := (List.forall_mem_cons.mp hne2.2)
    have hne4 := (List.forall_mem_cons.mp hne3.2)
    simp only [AllLt] at hlt'
    have q1 := neNat hne2.1
    have q0 := neNat hne
    have q2 := neNat hne3.1
    have q3 := neNat hne4.1
    have q4 := hne4.2
    clear hF hN hne2 hne3 hne4
    dsimp only at q1 q2 q3
    try k_fold
    k_steps
    · rename Fr _ _ _ _ => F9
      rename News _ _ _ _ => N9
      have e32 : n = 32 := code_eq sp_is (by assumption)
      subst e32
      refine ws_end F9 N9 (.head _) (.tail _ (.head _)) (fun p hp => .tail _ (.tail _ hp)) hne.symm hbase (by rw [wsRun_snoc]; rfl) hI hws rfl hpl hltb rfl rfl rfl rfl ?_
      intro z z0 z1 z2 z3 z4
      simp only [if_neg z1, if_neg z3, wsMap_off z0 z1 z2 z3 z4]
    · rename Fr _ _ _ _ => F9
      rename News _ _ _ _ => N9
      have e9 : n = 9 := code_eq tab_is (by assumption)
      subst e9
      have l9 := (by assumption : _ < _ ∧ _ < _ ∧ _ < _ ∧ _ < _ ∧ _ < _ ∧ _ < _ ∧ _ < _ ∧ AllLt _ news)
      obtain ⟨m1, m2, m3, m4, m5, m6, m7, m8⟩ := l9
      refine ws_end F9 N9 (.tail _ (.tail _ (.tail _ (.head _)))) (.head _) (fun p hp => .tail _ (.tail _ (.tail _ (.tail _ (.tail _ hp))))) (Nat.ne_of_gt m3) hbase (by rw [wsRun_snoc]; unfold wsStep; rw [if_neg (by decide), if_pos (by assumption)]) (by assumption) hws rfl hpl ⟨m5, m6, m7, m8⟩ rfl rfl rfl rfl ?_
      intro z z0 z1 z2 z3 z4
      simp only [if_neg z1, if_neg z2, if_neg z3, if_neg z4, wsMap_off z0 z1 z2 z3 z4]
    · rename Fr _ _ _ _ => F9
      rename News _ _ _ _ => N9
      have e9 : n = 9 := code_eq tab_is (by assumption)
      subst e9
      refine ws_end F9 N9 (.head _) (.tail _ (.head _)) (fun p hp => .tail _ (.tail _ hp)) hne.symm hbase (by rw [wsRun_snoc]; unfold wsStep; rw [if_neg (by decide), if_neg (by omega)]) (by assumption) hws rfl hpl hltb rfl rfl rfl rfl ?_
      intro z z0 z1 z2 z3 z4
      simp only [if_neg z1, if_neg z2, if_neg z3, if_neg z4, wsMap_off z0 z1 z2 z3 z4]
    · rename Fr _ _ _ _ => F9
      rename News _ _ _ _ => N9
      have n32 : n ≠ 32 := code_ne sp_is (by assumption)
      have n9 : n ≠ 9 := code_ne tab_is (by assumption)
      have l9 := (by assumption : _ < _ ∧ _ < _ ∧ _ < _ ∧ _ < _ ∧ _ < _ ∧ AllLt _ news)
      have l8 := (by assumption : _ < _ ∧ _ < _ ∧ _ < _ ∧ _ < _ ∧ _ < _ ∧ _ < _ ∧ AllLt _ news)
      exact ws_back hret F9 (News.without2 N9) (by rw [hcs, take_at hws (by simp [isWs, n32, n9])]) hI (by assumption) (by assumption) l9.2.2.2.1 l8.1
  case done =>
    intro c u h tk hf F N
    obtain ⟨hI, hws, hlen, hlt'⟩ := hf
    obtain ⟨b1, b2, b3, b4, b5, b6, b7⟩ := wsRun_bounds x.cps.toList
    simp only [AllLt] at hlt'
    clear hF hN
    try k_fold
    k_steps
    rename Fr _ _ _ _ => F9
    rename News _ _ _ _ => N9
    have l9 := (by assumption : _ < _ ∧ _ < _ ∧ _ < _ ∧ _ < _ ∧ AllLt _ news)
    have l8 := (by assumption : _ < _ ∧ _ < _ ∧ _ < _ ∧ _ < _ ∧ _ < _ ∧ AllLt _ news)
    exact ws_back hret F9 N9 (by rw [take_all hws]) hI (by assumption) (by assumption) l9.2.2.1 l8.1
end Mine
end
section
namespace Mine
theorem ints_len {us : List Value} {cs : List Int} (h : IntsAre us cs) : (us.length : Int) = (cs.length : Int) := congrArg _ h.length
local macro_rules | `(tactic| walk_at "call builtin:len") => `(tactic| (k_here; (with_reducible show wpAny _ _ (call (Value.builtin "len") [Value.ref _]) _ _ _); k_dflt (refine' ktm_lenK ?k1 ?k2 ?k3 ?k4 ?_; (case k1 => k_asm); (case k2 => k_mem); (case k3 => rw [IntsAre.length (by assumption)]; omega); (case k4 => exact ints_len (by assumption)); k_whole)))
noncomputable def indS (size : Int) (cs pre : List Int) : Int := (pre.map fun i => i.fdiv size * cs.getD i.toNat 0).sum
theorem ind_mul {k size c : Int} {cs p : List Int} (hk : k = size + (p.length : Int)) (hl : p.length < ((cs.length : Int) - size).toNat) (hc : cs.length ≤ 100) (h1 : 1 ≤ size) : IntMulOk (k.fdiv size) c := by
  have e := Int.fdiv_eq_ediv_of_nonneg k (show 0 ≤ size by omega)
  have e1 : 0 ≤ k / size := Int.ediv_nonneg (by omega) (by omega)
  have e2 : k / size ≤ k := Int.ediv_le_self _ (by omega)
  exact PySem.IntMulOk.of_left (PySem.intBits_le_64 (by omega) (by omega))
theorem ind_snoc {size v k : Int} {cs p : List Int} (h : v = indS size cs p) : v + k.fdiv size * cs.getD k.toNat 0 = indS size cs (p ++ [k]) := by
  subst h; simp [indS]
noncomputable def indentI (size : Int) (cs : List Int) (nt b : Int) : Int := b + size * (indS size cs (rangeKs size ((cs.length : Int) - size).toNat) + nt)
local macro_rules | `(tactic| mul_fits) => `(tactic| exact ind_mul (by assumption) (by assumption) (by assumption) (by assumption))
theorem indent_spec (w : World) (x d T D : Addr) (us : List Value) (cs : List Int) (hI : IntsAre us cs) (hc : cs.length ≤ 100) (xv : Value) (n nt b : Int) (sm : Bool) (t1 t2 t3 t4 t5 tn tnt tb : Tok) (size : Int) (ts : Tok) (h1 : 1 ≤ size) (h4 : size ≤ 4) (rest : List (Addr × Obj)) :
    Spec 2 w (.ref 95) [.ref x, .int size ts] [] ((T, { cls := .type "tuple", data := .seq #[.ref D, .int b tb] }) :: (D, { cls := .type "tuple", data := .seq us.toArray }) :: (x, instObj 126 d) ::
      (d, dictOf [dE w "raw" t1 xv, dE w "n" t2 (.int n tn), dE w "nt" t3 (.int nt tnt), dE w "norm" t4 (.ref T), dE w "is_simple" t5 (.bool sm)] 5) :: rest) (fun v news' => (∃ t, v = .int (indentI size cs nt b) t) ∧ news' = (T, { cls := .type "tuple", data := .seq #[.ref D, .int b tb] }) :: (D, { cls := .type "tuple", data := .seq us.toArray }) :: (x, instObj 126 d) ::
      (d, dictOf [dE w "raw" t1 xv, dE w "n" t2 (.int n tn), dE w "nt" t3 (.int nt tnt), dE w "norm" t4 (.ref T), dE w "is_simple" t5 (.bool sm)] 5) :: rest) := by
  have zz : (fun (_ : Params → Frag) (_ : OpenLaw) => True) K PySem.Challenge.rw_sn0070_01 := by k_fill; trivial
  clear zz
  unfold Spec
  intros
  rename_i hret
  refine wpAny_call ?_
  k_dflt k_enter
  k_with "pyIter ref" => k_state (fun pre il => il = indS size cs pre) "il"
  k_with "state" => first | rfl | exact ind_snoc (by assumption)
  k_steps
  · exact hret _ _ _ _ ⟨⟨_, by unfold indentI; rw [← (by assumption : _ = indS size cs (rangeKs size ((cs.length : Int) - size).toNat))]⟩, rfl⟩ (by k_asm) (by k_asm)
end Mine
end
section
namespace Mine
structure PfSt where
  tf : Tok
  vs : List Value
  ep : Nat
noncomputable def pfBit (i : Nat) : Int := 1 * 2 ^ (0 + (i : Int)).toNat
noncomputable def pfTab : List (Int × PyData) :=
  [(1, .str ⟨#[79, 80, 84, 73, 77, 73, 90, 69, 68]⟩), (2, .str ⟨#[78, 69, 87, 76, 79, 67, 65, 76, 83]⟩), (4, .str ⟨#[86, 65, 82, 65, 82, 71, 83]⟩), (8, .str ⟨#[86, 65, 82, 75, 69, 89, 87, 79, 82, 68, 83]⟩), (16, .str ⟨#[78, 69, 83, 84, 69, 68]⟩),
   (32, .str ⟨#[71, 69, 78, 69, 82, 65, 84, 79, 82]⟩), (64, .str ⟨#[78, 79, 70, 82, 69, 69]⟩), (128, .str ⟨#[67, 79, 82, 79, 85, 84, 73, 78, 69]⟩), (256, .str ⟨#[73, 84, 69, 82, 65, 66, 76, 69, 95, 67, 79, 82, 79, 85, 84, 73, 78, 69]⟩), (512, .str ⟨#[65, 83, 89, 78, 67, 95, 71, 69, 78, 69, 82, 65, 84, 79, 82]⟩)]
noncomputable def pfLook (v : Int) : PyData := (PySem.Spec.lookup (PyData.int v) (pfTab.map fun p => (PyData.int p.1, p.2))).getD (.str (baseText "0x" 16 v))
noncomputable def strOf : PyData → Str
  | .str x => x
  | _ => ⟨#[]⟩
noncomputable def isStr : PyData → Bool
  | .str _ => true
  | _ => false
theorem isStr_eq {d : PyData} (h : isStr d = true) : d = .str (strOf d) := by cases d <;> first | rfl | cases h
noncomputable def pfName (i : Nat) : Str := strOf (pfLook (1 * 2 ^ (0 + (i : Int)).toNat))
theorem pfLook_str {i : Nat} (hi : i < 32) : pfLook (1 * 2 ^ (0 + (i : Int)).toNat) = .str (pfName i) := by
  have : ∀ i < 32, isStr (pfLook (1 * 2 ^ (0 + ((i : Nat) : Int)).toNat)) = true := by decide +kernel
  exact isStr_eq (this i hi)
noncomputable def pfStep (s : Int × List Str) (i : Nat) : Int × List Str := if Builtin.bitAnd s.1 (pfBit i) ≠ 0 then (Builtin.bitXor s.1 (pfBit i), s.2 ++ [pfName i]) else s
noncomputable def pfRun (n : Int) (i : Nat) : Int × List Str := (List.range i).foldl pfStep (n, [])
theorem pfRun_succ (n : Int) (i : Nat) : pfRun n (i + 1) = pfStep (pfRun n i) i := by simp [pfRun, List.range_succ, List.foldl_append]
theorem and_pow (k i : Nat) : k &&& 2 ^ i = if k.testBit i then 2 ^ i else 0 := by
  refine Nat.eq_of_testBit_eq fun j => ?_
  rw [Nat.testBit_and, Nat.testBit_two_pow]
  by_cases h : i = j
  · subst h
    cases hb : k.testBit i <;> simp
  · cases hb : k.testBit i <;> simp [h, Nat.testBit_two_pow]
theorem pf_xor {x : Int} {i : Nat} (h0 : 0 ≤ x) (hb : Builtin.bitAnd x (pfBit i) ≠ 0) : 0 ≤ Builtin.bitXor x (pfBit i) ∧ Builtin.bitXor x (pfBit i) ≤ x := by
  have e : pfBit i = ((2 ^ i : Nat) : Int) := by
    unfold pfBit
    have : (0 + (i : Int)).toNat = i := by omega
    rw [this, Int.one_mul]; push_cast; rfl
  obtain ⟨k, rfl⟩ : ∃ k : Nat, x = k := ⟨x.toNat, by omega⟩
  rw [e] at hb ⊢
  have ea : Builtin.bitAnd (k : Int) ((2 ^ i : Nat) : Int) = ((k &&& 2 ^ i : Nat) : Int) := by
    show PySem.Spec.bitAnd (k : Int) ((2 ^ i : Nat) : Int) = _
    unfold PySem.Spec.bitAnd
    rw [decide_eq_true (Int.natCast_nonneg k), decide_eq_true (Int.natCast_nonneg (2 ^ i))]
    rfl
  rw [ea, and_pow] at hb
  rw [bitXor_and, ea, and_pow]
  have hle : k &&& 2 ^ i ≤ k := Nat.and_le_left
  rw [and_pow] at hle
  rcases hbit : k.testBit i with _ | _
  · rw [hbit] at hb; simp at hb
  · have hpos : (0 : Int) < ((2 ^ i : Nat) : Int) := by exact_mod_cast Nat.two_pow_pos i
    simp only [hbit, if_true] at hle ⊢; omega
theorem pf_zero {n : Int} {j : Nat} (h : (pfRun n j).1 = 0) : ∀ k, pfRun n (j + k) = pfRun n j := by
  intro k
  induction k with
  | zero => rfl
  | succ k ih =>
    rw [← Nat.add_assoc, pfRun_succ, ih]
    have e : Builtin.bitAnd 0 (pfBit (j + k)) = 0 := by
      show PySem.Spec.bitAnd (0 : Int) (pfBit (j + k)) = 0
      unfold PySem.Spec.bitAnd
      by_cases hp : 0 ≤ pfBit (j + k)
      · rw [decide_eq_true hp]; simp
      · rw [decide_eq_false hp]; simp
    unfold pfStep
    rw [h, e]; simp
theorem pf_step0 (i : Nat) : Builtin.bitAnd (pfRun 0 0).1 (pfBit i) = 0 := by
  show PySem.Spec.bitAnd (0 : Int) (pfBit i) = 0
  unfold PySem.Spec.bitAnd
  by_cases hp : 0 ≤ pfBit i
  · rw [decide_eq_true hp]; simp
  · rw [decide_eq_false hp]; simp
noncomputable def prettyNames (n : Int) : List Str := if n ≠ 0 ∧ (pfRun n 32).1 = 0 then (pfRun n 32).2 else (pfRun n 32).2 ++ [baseText "0x" 16 (pfRun n 32).1]
theorem pfName_len {i : Nat} (hi : i < 32) : (pfName i).length ≤ 20 := by
  have : ∀ i < 32, (pfName i).length ≤ 20 := by decide +kernel
  exact this i hi
noncomputable def pfLed (cl : Addr) (base : List (Addr × Obj)) (_ : Nat) (c : PfSt) : List (Addr × Obj) := (cl, listOf c.vs.toArray c.ep) :: base
noncomputable def pfNames (n : Int) (cl : Addr) (i : Nat) (c : PfSt) : List (Str × Value) := [(Str.ofString "flags", .int (pfRun n i).1 c.tf), (Str.ofString "names", .ref cl)]
noncomputable def pfFacts (n : Int) (i : Nat) (c : PfSt) : Prop := StrsAre c.vs (pfRun n i).2 ∧ 0 ≤ (pfRun n i).1 ∧ (pfRun n i).1 ≤ n ∧ (n ≠ 0 → (pfRun n i).1 ≠ 0) ∧ c.vs.length ≤ i ∧ ∀ y ∈ (pfRun n i).2, y.length ≤ 20
section
variable {prog : Program} {w : World} {A : Around} {E : Value → Shared → Prop} {s : Shared} {env : Env} {h₀ : Heap} {body orelse : List Stmt} {Q : Flow → Shared → Prop}
theorem pf_loop {x : Str} {px : Pos} {n : Int} {r : Addr} {t u v : Tok} {m₀ : Str → Option Value} {base : List (Addr × Obj)} {cl : Addr} {tk : Tok}
    (h0 : 0 ≤ n) (hh : A.handled = none) (hr : IsRange s.heap r 0 32 1 t u v) (F : Fr h₀ env.locals s.heap m₀) (N : News h₀ env.locals s.heap ((cl, listOf #[] 0) :: base))
    (h1 : m₀ (Str.ofString "flags") = some (.int n tk)) (h2 : m₀ (Str.ofString "names") = some (.ref cl))
    (turn : ∀ (c : PfSt) (i : Nat) (t : Tok) (I : Addr) (oI : Obj) (u : Str → Option Value) h tk, i < 32 → pfFacts n i c → (∀ p ∈ (cl, listOf c.vs.toArray c.ep) :: base, p.1 ≠ I) →
      Fr h₀ env.locals h (fun y => if y = x then u y else kstB (fun z => if [Str.ofString "flag"].contains z then u z else m₀ z) [(Str.ofString "flags", .int (pfRun n i).1 c.tf), (Str.ofString "names", .ref cl)] y) → News h₀ env.locals h ((I, oI) :: (cl, listOf c.vs.toArray c.ep) :: base) →
      wpAny (model prog w) A (assign (.Name x px) env (.int (0 + (i : Nat)) t)) (fun _ s₂ => wpAny (model prog w) A (execs body env) (TPost h₀ env.locals (TKN (pfLed cl base) (pfNames n cl) (pfFacts n) x [Str.ofString "flag"] m₀ (i + 1)) (I, oI) { s with heap := h, toks := tk } Q) E s₂) E { s with heap := h, toks := tk })
    (done : ∀ (c : PfSt) (u : Str → Option Value) h tk, pfFacts n 32 c →
      Fr h₀ env.locals h (fun y => if y = x then u y else kstB (fun z => if [Str.ofString "flag"].contains z then u z else m₀ z) [(Str.ofString "flags", .int (pfRun n 32).1 c.tf), (Str.ofString "names", .ref cl)] y) → News h₀ env.locals h ((cl, listOf c.vs.toArray c.ep) :: base) →
      wpAny (model prog w) A (execs orelse env) Q E { s with heap := h, toks := tk })
    (hE : PassesOwn (model prog w) A env E := by passes_own) :
    wpAny (model prog w) A (pyIter (.ref r)) (fun it s₂ => MyLoop prog w A (.Name x px) body orelse env Q E it s₂) E s :=
  range_loopK (pfLed cl base) (pfNames n cl) (pfFacts n) [Str.ofString "flag"] ⟨tk, [], 0⟩ hh hr (by decide) rfl F N ⟨StrsAre.nil, h0, Int.le_refl _, id, Nat.le_refl _, nil_all⟩ (List.forall_mem_cons.mpr ⟨h1, List.forall_mem_cons.mpr ⟨h2, nil_all⟩⟩) turn done hE
end
local macro_rules | `(tactic| walk_at "exec For Name Call cons cons") => `(tactic| (k_dflt (refine for_enter ?_)))
local macro_rules | `(tactic| walk_at "TPost") => `(tactic| (dsimp only [TPost]))
section
variable {prog : Program} {w : World} {A : Around} {E : Value → Shared → Prop} {s : Shared} {h₀ : Heap} {L : Addr} {m : Str → Option Value}
theorem pf_get {Q : Value → Shared → Prop} {i : Nat} {tk t : Tok} (K : KTD.Keyed h₀ 39 pfTab) (F : Fr h₀ L s.heap m) (hi : i < 32) (h : ∀ t, Q (.str (pfName i) t) { s with toks := s.toks + 1 }) :
    wpAny (model prog w) A (call (.builtin "dict.get") [.ref 39, .int (1 * 2 ^ (0 + (i : Int)).toNat) tk, .str (baseText "0x" 16 (1 * 2 ^ (0 + (i : Int)).toNat)) t]) Q E s :=
  call_get2_intTab (K.keep F.keep prog w) (PyProof.V.Flat.str _ _) fun v hv => by
    have hv' : PyProof.V.Flat v (pfLook (1 * 2 ^ (0 + (i : Int)).toNat)) := hv
    rw [pfLook_str hi] at hv'
    obtain ⟨t, rfl⟩ := PyProof.V.Flat.str_inv hv'
    exact h t
end
local macro_rules | `(tactic| walk_at "call builtin:dict.get") => `(tactic| (refine' pf_get ?kA ?kB ?kC ?kD; (case kB => k_asm); (case kA => with_unfolding_all assumption); (case kC => assumption); intro tG))
theorem pf_allNe {news : List (Addr × Obj)} {d : Addr} (h : ∀ p ∈ news, p.1 < d) : ∀ p ∈ news, p.1 ≠ d := fun p hp => Nat.ne_of_lt (h p hp)
local macro_rules | `(tactic| k_all) => `(tactic| exact pf_allNe (by assumption))
theorem pf_brk {n : Int} {i : Nat} (hi : i < 32) (hb : Builtin.bitAnd (pfRun n i).1 (1 * 2 ^ (0 + (i : Int)).toNat) ≠ 0) (hx : Builtin.bitXor (pfRun n i).1 (1 * 2 ^ (0 + (i : Int)).toNat) = 0) : prettyNames n = (pfRun n i).2 ++ [pfName i] := by
  have e : pfRun n (i + 1) = (Builtin.bitXor (pfRun n i).1 (1 * 2 ^ (0 + (i : Int)).toNat), (pfRun n i).2 ++ [pfName i]) := by rw [pfRun_succ]; unfold pfStep pfBit; rw [if_pos hb]
  have e1 : (pfRun n (i + 1)).1 = 0 := by rw [e]; exact hx
  have e2 : pfRun n 32 = pfRun n (i + 1) := by
    have := pf_zero e1 (31 - i)
    rwa [show i + 1 + (31 - i) = 32 by omega] at this
  have hn : n ≠ 0 := by
    rintro rfl
    have h9 := pf_zero (n := 0) (j := 0) rfl i
    rw [Nat.zero_add] at h9
    rw [h9] at hb
    exact hb (pf_step0 i)
  unfold prettyNames
  rw [e2, if_pos ⟨hn, e1⟩, e]
theorem pf_fin {n : Int} (h : n ≠ 0 → (pfRun n 32).1 ≠ 0) : prettyNames n = (pfRun n 32).2 ++ [baseText "0x" 16 (pfRun n 32).1] := by
  unfold prettyNames
  rw [if_neg (fun q => h q.1 q.2)]
theorem hex_small {i : Nat} (hi : i < 32) : (baseText "0x" 16 (1 * 2 ^ (0 + (i : Int)).toNat)).length ≤ sizeLine := by
  have : ∀ i < 32, (baseText "0x" 16 (1 * 2 ^ (0 + ((i : Nat) : Int)).toNat)).length ≤ sizeLine := by decide +kernel
  exact this i hi
local macro_rules | `(tactic| walk_at "call builtin:hex") => `(tactic| (refine P.hex_of_int ?_ (hex_small (by assumption))))
section
variable {L : Addr} {x : Str} {m₀ m' : Str → Option Value} {base : List (Addr × Obj)} {n : Int} {i : Nat} {s₁ : Shared} {h₀ h' : Heap} {tk ep : Nat} {I cl : Addr} {oI : Obj} {vs : List Value} {tf tG : Tok}
theorem pf_off (q0 : @Ne Nat cl I) (q4 : ∀ p ∈ base, p.1 ≠ I) {o : Obj} : ∀ p ∈ (cl, o) :: base, p.1 ≠ (I, oI).1 := List.forall_mem_cons.mpr ⟨q0, q4⟩
theorem pf_endA (F : Fr h₀ L h' m') (N : News h₀ L h' ((I, oI) :: (cl, listOf (vs.toArray.push (.str (pfName i) tG)) (ep + 1)) :: base)) (hS : StrsAre vs (pfRun n i).2) (f0 : 0 ≤ (pfRun n i).1) (f1 : (pfRun n i).1 ≤ n) (hl : vs.length ≤ i) (hy : ∀ y ∈ (pfRun n i).2, y.length ≤ 20) (hi : i < 32)
    (hb : Builtin.bitAnd (pfRun n i).1 (1 * 2 ^ (0 + (i : Int)).toNat) ≠ 0) (hx : Builtin.bitXor (pfRun n i).1 (1 * 2 ^ (0 + (i : Int)).toNat) ≠ 0) (q0 : @Ne Nat cl I) (q4 : ∀ p ∈ base, p.1 ≠ I)
    (k1 : m' (Str.ofString "flags") = some (.int (Builtin.bitXor (pfRun n i).1 (1 * 2 ^ (0 + (i : Int)).toNat)) tf)) (k2 : m' (Str.ofString "names") = some (.ref cl))
    (hr : ∀ z, z ≠ x → z ≠ Str.ofString "flags" → z ≠ Str.ofString "names" → z ≠ Str.ofString "flag" → m' z = m₀ z) :
    TEnd h₀ L (TKN (pfLed cl base) (pfNames n cl) (pfFacts n) x [Str.ofString "flag"] m₀ (i + 1)) (I, oI) s₁ { s₁ with heap := h', toks := tk } := by
  have e : pfRun n (i + 1) = (Builtin.bitXor (pfRun n i).1 (1 * 2 ^ (0 + (i : Int)).toNat), (pfRun n i).2 ++ [pfName i]) := by rw [pfRun_succ]; unfold pfStep pfBit; rw [if_pos hb]
  rw [List.push_toArray] at N
  obtain ⟨g0, g1⟩ := pf_xor f0 hb
  refine tkn_end (⟨tf, vs ++ [Value.str (pfName i) tG], ep + 1⟩ : PfSt) F N (fun p hp => .tail _ hp) (.head _) (pf_off q0 q4) ⟨?_, ?_, ?_, ?_, ?_, ?_⟩ ?_ ?_
  · rw [e]; exact StrsAre.append' hS (.cons _ _ .nil)
  · rw [e]; exact g0
  · rw [e]; exact Int.le_trans g1 f1
  · rw [e]; exact fun _ => hx
  · show (vs ++ [_]).length ≤ i + 1
    rw [List.length_append]; exact Nat.add_le_add_right hl 1
  · rw [e]; intro y h
    rcases List.mem_append.mp h with h | h
    · exact hy y h
    · rw [List.mem_singleton.mp h]; exact pfName_len hi
  · unfold pfNames; rw [e]; exact List.forall_mem_cons.mpr ⟨k1, List.forall_mem_cons.mpr ⟨k2, nil_all⟩⟩
  · intro z z0 zp zs
    exact hr z z0 (zp _ (.head _)) (zp _ (.tail _ (.head _))) (by rintro rfl; exact absurd zs (by decide))
theorem pf_endB (F : Fr h₀ L h' m') (N : News h₀ L h' ((I, oI) :: (cl, listOf vs.toArray ep) :: base)) (hS : StrsAre vs (pfRun n i).2) (f0 : 0 ≤ (pfRun n i).1) (f1 : (pfRun n i).1 ≤ n) (fn : n ≠ 0 → (pfRun n i).1 ≠ 0) (hl : vs.length ≤ i) (hy : ∀ y ∈ (pfRun n i).2, y.length ≤ 20)
    (hb : Builtin.bitAnd (pfRun n i).1 (1 * 2 ^ (0 + (i : Int)).toNat) = 0) (q0 : @Ne Nat cl I) (q4 : ∀ p ∈ base, p.1 ≠ I)
    (k1 : m' (Str.ofString "flags") = some (.int (pfRun n i).1 tf)) (k2 : m' (Str.ofString "names") = some (.ref cl))
    (hr : ∀ z, z ≠ x → z ≠ Str.ofString "flags" → z ≠ Str.ofString "names" → z ≠ Str.ofString "flag" → m' z = m₀ z) :
    TEnd h₀ L (TKN (pfLed cl base) (pfNames n cl) (pfFacts n) x [Str.ofString "flag"] m₀ (i + 1)) (I, oI) s₁ { s₁ with heap := h', toks := tk } := by
  have e : pfRun n (i + 1) = pfRun n i := by rw [pfRun_succ]; unfold pfStep pfBit; rw [if_neg (by simpa using hb)]
  refine tkn_end (⟨tf, vs, ep⟩ : PfSt) F N (fun p hp => .tail _ hp) (.head _) (pf_off q0 q4) ⟨by rw [e]; exact hS, by rw [e]; exact f0, by rw [e]; exact f1, by rw [e]; exact fn, Nat.le_succ_of_le hl, by rw [e]; exact hy⟩ ?_ ?_
  · unfold pfNames; rw [e]; exact List.forall_mem_cons.mpr ⟨k1, List.forall_mem_cons.mpr ⟨k2, nil_all⟩⟩
  · intro z z0 zp zs
    exact hr z z0 (zp _ (.head _)) (zp _ (.tail _ (.head _))) (by rintro rfl; exact absurd zs (by decide))
theorem contains_one {a z : Str} (h : z ≠ a) : [a].contains z = false := by simp [h]
theorem pf_weight {ys : List Str} (hy : ∀ y ∈ ys, y.length ≤ 40) (h : ys.length ≤ 40) : (ys.map (·.length)).sum + ys.length ≤ 1048576 := by
  have : ∀ ys : List Str, (∀ y ∈ ys, y.length ≤ 40) → (ys.map (·.length)).sum ≤ 40 * ys.length := by
    intro ys
    induction ys with
    | nil => intro _; simp
    | cons a r ih => intro hh; have := ih (fun y hm => hh y (.tail _ hm)); have := hh a (.head _); simp only [List.map_cons, List.sum_cons, List.length_cons]; omega
  have := this ys hy
  omega
end
theorem digits_len : ∀ (k fuel n : Nat) (acc : List Char), n < 16 ^ (k + 1) → (Nat.toDigitsCore 16 fuel n acc).length ≤ acc.length + k + 1
  | _, 0, _, acc, _ => by simp only [Nat.toDigitsCore]; omega
  | 0, f + 1, n, acc, h => by
    have h0 : n / 16 = 0 := Nat.div_eq_of_lt (by simpa using h)
    simp [Nat.toDigitsCore, h0]
  | k + 1, f + 1, n, acc, h => by
    simp only [Nat.toDigitsCore]
    split
    · simp only [List.length_cons]; omega
    · have := digits_len k f (n / 16) (Nat.digitChar (n % 16) :: acc) (by rw [Nat.div_lt_iff_lt_mul (by decide)]; rw [← Nat.pow_succ]; exact h)
      simp only [List.length_cons] at this
      omega
theorem hex_fit {x : Int} (h0 : 0 ≤ x) (h1 : x < 4611686018427387904) : (baseText "0x" 16 x).length ≤ 40 := by
  unfold baseText
  rw [Str.length_append, Str.length_append, if_neg (by omega)]
  have e1 : (Str.ofString "").length = 0 := by decide +kernel
  have e2 : (Str.ofString "0x").length = 2 := by decide +kernel
  have e3 := digits_len 16 (x.natAbs + 1) x.natAbs [] (by omega)
  rw [e1, e2, ofString_ofList_length]
  unfold Nat.toDigits
  simp only [List.length_nil] at e3
  omega
theorem hex_fits {x : Int} (h0 : 0 ≤ x) (h1 : x < 4611686018427387904) : (baseText "0x" 16 x).length ≤ sizeLine := by
  have := hex_fit h0 h1
  rw [PySem.sizeLine_eq]; omega
local macro_rules | `(tactic| walk_at "call builtin:hex") => `(tactic| (refine' P.hex_of_int ?kA ?kB; (case kB => exact hex_fits (by assumption) (by assumption))))
theorem pretty_spec (w : World) (n : Int) (h0 : 0 ≤ n) (h1 : n ≤ 103079215104) (tk : Tok) (news : List (Addr × Obj)) :
    Spec 2 w (.ref 46) [.int n tk] [] news (fun v news' => (∃ t, v = .str (PySem.Txt.join (Str.ofString ", ") (prettyNames n)) t) ∧ news' = news) := by
  have zz : (fun (_ : Params → Frag) (_ : OpenLaw) => True) K PySem.Challenge.rw_sn0070_01 := by k_fill; trivial
  clear zz
  unfold Spec
  intros
  rename_i hret
  refine wpAny_call ?_
  k_dflt k_enter
  k_steps
  rename News _ _ _ _ => hN
  rename Fr _ _ _ _ => hF
  rename IsRange _ _ _ _ _ _ _ _ => hR
  refine' pf_loop h0 rfl hR hF hN rfl rfl ?turn ?done
  case turn =>
    intro c i t I oI u h tk hi hf off F N
    clear hF hN
    obtain ⟨hS, hf0, hf1, hfn, hl, hy⟩ := hf
    have q0 : @Ne Nat _ _ := off _ (.head _)
    have q4 := (List.forall_mem_cons.mp off).2
    clear off
    dsimp only at q0
    k_steps
    · rename Fr _ _ _ _ => F9
      rename News _ _ _ _ => N9
      refine pf_endA F9 N9 hS hf0 hf1 hl hy hi (by assumption) (by assumption) q0 q4 rfl rfl ?_
      intro z z0 z1 z2 z3
      simp only [if_neg z1, if_neg z2, if_neg z3, if_neg z0, kstB, contains_one z3, Bool.false_eq_true, if_false]
    · rename Fr _ _ _ _ => F9
      rename News _ _ _ _ => N9
      have e3 : prettyNames n = (pfRun n i).2 ++ [pfName i] := pf_brk hi (by assumption) (by assumption)
      rw [List.push_toArray] at N9
      refine join_listW (ys := (pfRun n i).2 ++ [pfName i]) (News.isList N9 (.tail _ (.head _))) (StrsAre.append' hS (.cons _ _ .nil)) (by decide +kernel) ?_ ?_
      · refine pf_weight ?_ ?_
        · intro y h
          rcases List.mem_append.mp h with h | h
          · exact Nat.le_trans (hy y h) (by decide)
          · rw [List.mem_singleton.mp h]; exact Nat.le_trans (pfName_len hi) (by decide)
        · have := hS.length; rw [List.length_append]; simp only [List.length_singleton]; omega
      intro t' k'
      k_steps
      exact hret _ _ _ _ ⟨⟨_, by rw [e3]⟩, rfl⟩ (by k_asm) (by rename News _ _ _ _ => N8; exact fun p hp => N8 p (.tail _ (.tail _ hp)))
    · rename Fr _ _ _ _ => F9
      rename News _ _ _ _ => N9
      refine pf_endB F9 N9 hS hf0 hf1 hfn hl hy (by assumption) q0 q4 rfl rfl ?_
      intro z z0 z1 z2 z3
      simp only [if_neg z1, if_neg z2, if_neg z3, if_neg z0, kstB, contains_one z3, Bool.false_eq_true, if_false]
  case done =>
    intro c u h tk hf F N
    clear hF hN
    obtain ⟨hS, hf0, hf1, hfn, hl, hy⟩ := hf
    have hb1 : (pfRun n 32).1 < 4611686018427387904 := by omega
    k_steps
    rename Fr _ _ _ _ => F9
    rename News _ _ _ _ => N9
    have e3 : prettyNames n = (pfRun n 32).2 ++ [baseText "0x" 16 (pfRun n 32).1] := pf_fin hfn
    rw [List.push_toArray] at N9
    refine join_listW (ys := (pfRun n 32).2 ++ [baseText "0x" 16 (pfRun n 32).1]) (News.isList N9 (.head _)) (StrsAre.append' hS (.cons _ _ .nil)) (by decide +kernel) ?_ ?_
    · refine pf_weight ?_ ?_
      · intro y h
        rcases List.mem_append.mp h with h | h
        · exact Nat.le_trans (hy y h) (by decide)
        · rw [List.mem_singleton.mp h]; exact hex_fit hf0 hb1
      · have := hS.length; rw [List.length_append]; simp only [List.length_singleton]; omega
    intro t' k'
    k_steps
    exact hret _ _ _ _ ⟨⟨_, by rw [e3]⟩, rfl⟩ (by k_asm) (by rename News _ _ _ _ => N8; exact fun p hp => N8 p (.tail _ hp))
end Mine
end
section
namespace Mine
/-- a step: a tuple of three ints -/
structure Tr where
  a : Addr
  b : Int
  p : Int
  s : Int
  tb : Tok
  tp : Tok
  ts : Tok
noncomputable def Tr.ent (t : Tr) : Addr × Obj := (t.a, { cls := .type "tuple", data := .seq #[.int t.b t.tb, .int t.p t.tp, .int t.s t.ts] })
noncomputable def Tr.ref (t : Tr) : Value := .ref t.a
noncomputable def pureRun {α : Type} (lt : Nat → Nat → Bool) : KasT α → Option α
  | .ret a => some a
  | .ask i j k => if i < 4 ∧ j < 4 then pureRun lt (k (lt i j)) else none
theorem pureRun_congr {α : Type} {lt lt' : Nat → Nat → Bool} (h : ∀ i j, i < 4 → j < 4 → lt i j = lt' i j) : ∀ t : KasT α, pureRun lt t = pureRun lt' t
  | .ret a => rfl
  | .ask i j k => by
    unfold pureRun
    split
    · rename_i h4
      rw [h i j h4.1 h4.2]; exact pureRun_congr h _
    · rfl
theorem pure_wp {α : Type} {lt : Nat → Nat → Bool} {cmp : Nat → Nat → (Bool → Shared → Prop) → Shared → Prop} {Inv : Shared → Prop} {Q : α → Shared → Prop}
    (hc : ∀ i j C s, i < 4 → j < 4 → Inv s → (∀ s', Inv s' → C (lt i j) s') → cmp i j C s) : ∀ (t : KasT α) (a : α) (s : Shared), pureRun lt t = some a → Inv s → (∀ s, Inv s → Q a s) → t.kasWp cmp Q s
  | .ret b, a, s, h, hs, hq => by cases h; exact hq s hs
  | .ask i j k, a, s, h, hs, hq => by
    unfold pureRun at h
    split at h
    · rename_i h4
      exact hc i j _ s h4.1 h4.2 hs fun s' hs' => pure_wp hc _ a s' h hs' hq
    · cases h
noncomputable def tblLt (a b c d e f : Bool) (i j : Nat) : Bool :=
  match i, j with
  | 0, 1 => a | 0, 2 => b | 0, 3 => c | 1, 2 => d | 1, 3 => e | 2, 3 => f
  | 1, 0 => !a | 2, 0 => !b | 3, 0 => !c | 2, 1 => !d | 3, 1 => !e | 3, 2 => !f
  | _, _ => false
noncomputable def okP (lt : Nat → Nat → Bool) (p : Array Nat) : Bool :=
  p.size == 4 && lt (p.getD 0 0) (p.getD 1 0) && lt (p.getD 1 0) (p.getD 2 0) && lt (p.getD 2 0) (p.getD 3 0) && p.toList.isPerm [0, 1, 2, 3]
noncomputable def transB (a b c d e f : Bool) : Bool :=
  let lt := tblLt a b c d e f
  [0, 1, 2, 3].all fun i => [0, 1, 2, 3].all fun j => [0, 1, 2, 3].all fun k => !(lt i j && lt j k) || i == k || lt i k
theorem sort_tbl : ∀ a b c d e f : Bool, transB a b c d e f = true → ((pureRun (tblLt a b c d e f) (kas_sort 4)).map (okP (tblLt a b c d e f))) = some true := by decide +kernel
theorem dlt {x y : Int} (h : x ≠ y) : decide (y < x) = !decide (x < y) := by
  by_cases q : x < y
  · rw [decide_eq_true q, decide_eq_false (by omega)]; rfl
  · rw [decide_eq_false q, decide_eq_true (by omega)]; rfl
theorem dself (x : Int) : decide (x < x) = false := decide_eq_false (Int.lt_irrefl x)
theorem key_tbl {x y z u : Int} (n1 : x ≠ y) (n2 : x ≠ z) (n3 : x ≠ u) (n4 : y ≠ z) (n5 : y ≠ u) (n6 : z ≠ u) : ∀ i j, i < 4 → j < 4 →
    decide ([x, y, z, u].getD i 0 < [x, y, z, u].getD j 0) = tblLt (decide (x < y)) (decide (x < z)) (decide (x < u)) (decide (y < z)) (decide (y < u)) (decide (z < u)) i j
  | 0, 0, _, _ => dself x | 0, 1, _, _ => rfl | 0, 2, _, _ => rfl | 0, 3, _, _ => rfl
  | 1, 0, _, _ => dlt n1 | 1, 1, _, _ => dself y | 1, 2, _, _ => rfl | 1, 3, _, _ => rfl
  | 2, 0, _, _ => dlt n2 | 2, 1, _, _ => dlt n4 | 2, 2, _, _ => dself z | 2, 3, _, _ => rfl
  | 3, 0, _, _ => dlt n3 | 3, 1, _, _ => dlt n5 | 3, 2, _, _ => dlt n6 | 3, 3, _, _ => dself u
theorem tr_tbl (f : Nat → Int) (i j k : Nat) : (!(decide (f i < f j) && decide (f j < f k)) || i == k || decide (f i < f k)) = true := by
  by_cases h1 : f i < f j
  · by_cases h2 : f j < f k
    · rw [decide_eq_true (Int.lt_trans h1 h2), Bool.or_true]
    · rw [decide_eq_false h2, Bool.and_false]; rfl
  · rw [decide_eq_false h1]; rfl
theorem sort_pure {xs : List Int} (hl : xs.length = 4) (hn : xs.Nodup) : ∃ p : Array Nat, pureRun (fun i j => decide (xs.getD i 0 < xs.getD j 0)) (kas_sort 4) = some p ∧ p.toList.Perm [0, 1, 2, 3] ∧ (p.toList.map fun i => xs.getD i 0).Pairwise (· < ·) := by
  obtain ⟨x, y, z, u, rfl⟩ : ∃ x y z u, xs = [x, y, z, u] := by
    match xs, hl with
    | [x, y, z, u], _ => exact ⟨x, y, z, u, rfl⟩
  simp only [List.nodup_cons, List.mem_cons, List.not_mem_nil, not_or, or_false, not_false_eq_true, List.nodup_nil, and_true] at hn
  obtain ⟨⟨n1, n2, n3⟩, ⟨n4, n5⟩, n6⟩ := hn
  have key := key_tbl n1 n2 n3 n4 n5 n6
  have ht : transB (decide (x < y)) (decide (x < z)) (decide (x < u)) (decide (y < z)) (decide (y < u)) (decide (z < u)) = true := by
    have lt4 : ∀ i ∈ [0, 1, 2, 3], i < 4 := by decide
    refine List.all_eq_true.mpr fun i hi => List.all_eq_true.mpr fun j hj => List.all_eq_true.mpr fun k hk => ?_
    have := tr_tbl (fun i => [x, y, z, u].getD i 0) i j k
    rw [key i j (lt4 i hi) (lt4 j hj), key j k (lt4 j hj) (lt4 k hk), key i k (lt4 i hi) (lt4 k hk)] at this
    exact this
  have h := sort_tbl _ _ _ _ _ _ ht
  rw [← pureRun_congr key] at h
  obtain ⟨p, hp, ho⟩ := Option.map_eq_some_iff.mp h
  generalize kas_sort 4 = T at hp
  have hperm : p.toList.Perm [0, 1, 2, 3] := by
    unfold okP at ho
    exact List.isPerm_iff.mp (Bool.and_eq_true _ _ ▸ ho).2
  refine ⟨p, hp, hperm, ?_⟩
  obtain ⟨l⟩ := p
  have hls : l.length = 4 := hperm.length_eq
  obtain ⟨i, j, k, m, rfl⟩ : ∃ i j k m, l = [i, j, k, m] := by
    match l, hls with
    | [i, j, k, m], _ => exact ⟨i, j, k, m, rfl⟩
  have m4 : ∀ q ∈ [i, j, k, m], q < 4 := fun q hq => by
    have := hperm.mem_iff.mp hq
    simp only [List.mem_cons, List.not_mem_nil, or_false] at this
    omega
  have hi : i < 4 := m4 i (.head _)
  have hj : j < 4 := m4 j (.tail _ (.head _))
  have hk : k < 4 := m4 k (.tail _ (.tail _ (.head _)))
  have hm : m < 4 := m4 m (.tail _ (.tail _ (.tail _ (.head _))))
  unfold okP at ho
  simp only [Bool.and_eq_true] at ho
  obtain ⟨⟨⟨⟨-, o1⟩, o2⟩, o3⟩, -⟩ := ho
  have o1' : decide ([x, y, z, u].getD i 0 < [x, y, z, u].getD j 0) = true := (key i j hi hj).trans o1
  have o2' : decide ([x, y, z, u].getD j 0 < [x, y, z, u].getD k 0) = true := (key j k hj hk).trans o2
  have o3' : decide ([x, y, z, u].getD k 0 < [x, y, z, u].getD m 0) = true := (key k m hk hm).trans o3
  generalize [x, y, z, u] = xs at o1' o2' o3' ⊢
  have q1 := of_decide_eq_true o1'
  have q2 := of_decide_eq_true o2'
  have q3 := of_decide_eq_true o3'
  show ([xs.getD i 0, xs.getD j 0, xs.getD k 0, xs.getD m 0] : List Int).Pairwise (· < ·)
  generalize xs.getD i 0 = a at *
  generalize xs.getD j 0 = b at *
  generalize xs.getD k 0 = c at *
  generalize xs.getD m 0 = d at *
  simp only [List.pairwise_cons, List.mem_cons, List.not_mem_nil, or_false, forall_eq_or_imp, forall_eq, false_imp_iff, implies_true, List.Pairwise.nil, and_true]
  omega
end Mine
end
section
namespace Mine
section
variable {prog : Program} {w : World} {A : Around} {E : Value → Shared → Prop} {s : Shared} {h₀ : Heap} {L : Addr} {m : Str → Option Value} {news : List (Addr × Obj)}
theorem tr_getD (ts : List Tr) (d : Tr) {i : Nat} (hi : i < ts.length) : (ts.map Tr.ref).getD i .none = (ts.getD i d).ref ∧ (ts.map Tr.b).getD i 0 = (ts.getD i d).b ∧ ts.getD i d ∈ ts := by
  have e : ts.getD i d = ts[i] := by simp [hi]
  refine ⟨?_, ?_, by rw [e]; exact List.getElem_mem _⟩
  · rw [e]; simp [hi]
  · rw [e]; simp [hi]
theorem tups_of {h : Heap} : ∀ {ts : List Tr}, (∀ t ∈ ts, h.get? t.a = some t.ent.2) → KatTups h (ts.map Tr.ref) (ts.map fun t => .int t.b t.tb)
  | [], _ => .nil
  | t :: ts, g => .cons (g t (.head _)) rfl rfl rfl (tups_of fun t h => g t (.tail _ h))
theorem perm4 {ts : List Tr} (h4 : ts.length = 4) (t₀ : Tr) : List.Perm ([0, 1, 2, 3].map fun i => ts.getD i t₀) ts := by
  match ts, h4 with
  | [a, b, c, d], _ => exact .refl _
theorem sort4 {ts : List Tr} {l : Addr} {Q : Value → Shared → Prop} (F : Fr h₀ L s.heap m) (N : News h₀ L s.heap news) (hT : ∀ t ∈ ts, t.ent ∈ news) (hl : s.heap.IsList l (ts.map Tr.ref).toArray) (h4 : ts.length = 4) (hn : (ts.map Tr.b).Nodup)
    (h : ∀ D c ts' h', List.Perm ts' ts → (ts'.map Tr.b).Pairwise (· < ·) → Fr h₀ L h' m → News h₀ L h' ((D, listOf (ts'.map Tr.ref).toArray c) :: news) → (∀ q ∈ news, q.1 < D) → Q (.ref D) { s with heap := h' }) :
    wpAny (model prog w) A (call (.builtin "sorted") [.ref l]) Q E s := by
  have hlen : (ts.map Tr.ref).length = 4 := by rw [List.length_map, h4]
  refine kat_sorted F N hl (by omega) (by omega) fun D e1 h' F' N' lt => ?_
  have N0 : News h₀ L h' news := fun p hp => N' p (.tail _ hp)
  have g0 : ∀ t ∈ ts, h'.get? t.a = some t.ent.2 := fun t ht => (N0 _ (hT t ht)).1
  refine kat_kind (fs := ts.map fun t => .int t.b t.tb) (T := .type "int") (tups_of g0) (by rw [List.length_map]; omega) (fun v hv => ?_) rfl ?_
  · obtain ⟨t, -, rfl⟩ := List.mem_map.mp hv
    kas_ty
  obtain ⟨p, hp, hperm, hasc⟩ := sort_pure (by rw [List.length_map, h4]) hn
  rw [hlen]
  generalize kas_sort 4 = T at hp ⊢
  refine pure_wp (lt := fun i j => decide ((ts.map Tr.b).getD i 0 < (ts.map Tr.b).getD j 0)) (Inv := fun s' => s' = { s with heap := h' }) ?_ T p _ hp rfl ?_
  · rintro i j C s' hi hj rfl hC
    obtain ⟨t₀, -⟩ : ∃ t : Tr, True := ⟨ts[0]'(by omega), trivial⟩
    obtain ⟨a1, a2, a3⟩ := tr_getD ts t₀ (i := i) (by omega)
    obtain ⟨b1, b2, b3⟩ := tr_getD ts t₀ (i := j) (by omega)
    unfold kas_ask
    rw [a1, b1]
    rw [a2, b2] at hC
    have hij : (ts.getD i t₀).b = (ts.getD j t₀).b → ts.getD i t₀ = ts.getD j t₀ := by
      intro e
      rcases Nat.lt_trichotomy i j with h | h | h
      · rw [← a2, ← b2] at e; simp [h4, hi, hj] at e; have := List.pairwise_iff_getElem.mp hn i j (by simp; omega) (by simp; omega) h; simp at this; exact absurd e this
      · rw [h]
      · rw [← a2, ← b2] at e; simp [h4, hi, hj] at e; have := List.pairwise_iff_getElem.mp hn j i (by simp; omega) (by simp; omega) h; simp at this; exact absurd e.symm this
    generalize ts.getD i t₀ = x at *
    generalize ts.getD j t₀ = y at *
    refine kat_lt (g0 x a3) rfl (g0 y b3) rfl ?_
    refine kat_cons (wpAny_eqBool_int ?_)
    by_cases e : x.b = y.b
    · obtain rfl := hij e
      rw [beq_self_eq_true]
      refine kat_yes (kat_cons (wpAny_eqBool_int ?_))
      rw [beq_self_eq_true]
      refine kat_yes (kat_cons (wpAny_eqBool_int ?_))
      rw [beq_self_eq_true]
      refine kat_yes (kat_nil ?_)
      have := hC _ rfl
      rw [decide_eq_false (Int.lt_irrefl _)] at this
      exact this
    · rw [beq_eq_false_iff_ne.mpr e]
      exact kat_no (oneLt_int (hC _ rfl))
  · rintro s' rfl
    have t₀ : Tr := ts[0]'(by omega)
    have e : (p.toList.map fun i => (ts.map Tr.ref).getD i .none) = (p.toList.map fun i => ts.getD i t₀).map Tr.ref := by
      rw [List.map_map]
      refine List.map_congr_left fun i hi => ?_
      have : i ∈ [0, 1, 2, 3] := hperm.mem_iff.mp hi
      simp only [List.mem_cons, List.not_mem_nil, or_false] at this
      exact (tr_getD ts t₀ (by omega)).1
    have e2 : (p.toList.map fun i => (ts.map Tr.b).getD i 0) = (p.toList.map fun i => ts.getD i t₀).map Tr.b := by
      rw [List.map_map]
      refine List.map_congr_left fun i hi => ?_
      have : i ∈ [0, 1, 2, 3] := hperm.mem_iff.mp hi
      simp only [List.mem_cons, List.not_mem_nil, or_false] at this
      exact (tr_getD ts t₀ (by omega)).2.1
    have e3 : List.Perm (p.toList.map fun i => ts.getD i t₀) ts := by
      refine (hperm.map _).trans ?_
      exact perm4 h4 t₀
    rw [e2] at hasc
    rw [e]
    refine KasFin.intro F' N' (.head fun q hq => Nat.ne_of_lt (lt q hq)) fun h2 c F2 N2 => ?_
    exact h D c _ h2 e3 hasc F2 N2 lt
end
end Mine
end
section
namespace Mine
theorem kl_cut_at : ∀ {l : List Value} {k : Nat} (h : k < l.length), kl_cut l k = some (l.take k, l[k], l.drop (k + 1))
  | x :: r, 0, _ => rfl
  | x :: r, k + 1, h => by
    have h' : k < r.length := Nat.lt_of_succ_lt_succ h
    unfold kl_cut
    rw [kl_cut_at h']
    rfl
theorem ints_at {us : List Value} {ps : List Int} (hi : IntsAre us ps) : ∀ {k : Nat} (h : k < us.length), ∃ t, us[k] = .int (ps.getD k 0) t := by
  induction hi with
  | nil => intro k h; exact absurd h (Nat.not_lt_zero _)
  | cons n t r ih =>
    intro k h
    cases k with
    | zero => exact ⟨t, rfl⟩
    | succ k => exact ih (Nat.lt_of_succ_lt_succ h)
theorem ints_erase {us : List Value} {ps : List Int} (hi : IntsAre us ps) : ∀ k, IntsAre (us.eraseIdx k) (ps.eraseIdx k) := by
  induction hi with
  | nil => intro k; exact .nil
  | cons n t r ih =>
    intro k
    cases k with
    | zero => exact r
    | succ k => exact .cons n t (ih k)
section
variable {prog : Program} {w : World} {A : Around} {E : Value → Shared → Prop} {s : Shared} {h₀ : Heap} {L D : Addr} {m : Str → Option Value} {news news' : List (Addr × Obj)}
theorem range_led {r : Addr} {t u v : Tok} {Q : Value → Shared → Prop} (hh : A.handled = none) (F : Fr h₀ L s.heap m) (N : News h₀ L s.heap news) (hr : IsRange s.heap r 0 13 1 t u v)
    (hQ : ∀ D c ys h' tk, IntsAre ys (rangeInts 0 1 13) → Fr h₀ L h' m → News h₀ L h' ((D, listOf ys.toArray c) :: news) → (∀ p ∈ news, p.1 < D) → Q (.ref D) { s with heap := h', toks := tk }) :
    wpAny (model prog w) A (call (.type "list") [.ref r]) Q E s := by
  refine list_rangeD (n := 13) hh F N hr (by decide) rfl (by decide) fun h' tk ys F' N' hk hn hl np hc => ?_
  obtain ⟨⟨c, e⟩, ne⟩ := np
  refine hQ _ c ys h' tk (IntsAre.ofCarried hc) F' (List.forall_mem_cons.mpr ⟨⟨e, Nat.ne_of_gt (F.ns.lt), hn⟩, N'⟩) fun p hp => Heap.lt_size (N p hp).1
theorem len_led {us : List Value} {n : Nat} {k : Int} {Q : Value → Shared → Prop} (N : News h₀ L s.heap news) (hm : (D, listOf us.toArray n) ∈ news) (e : (us.length : Int) = k) (hk : k < 2 ^ 63)
    (h : Q (.int k (s.toks + 1)) { s with toks := s.toks + 1 + 1 }) : wpAny (model prog w) A (call (.builtin "len") [.ref D]) Q E s := by
  subst e
  have z : us.toArray.size = us.length := List.size_toArray
  refine Calls.call_len_list (items := us.toArray) ⟨_, (N _ hm).1, rfl, _, rfl⟩ (by rw [z]; exact hk) ?_
  rw [z]; exact h
theorem st_pop {us : List Value} {ps : List Int} {n : Nat} {i : Int} {u : Tok} {Q : Value → Shared → Prop} (F : Fr h₀ L s.heap m) (N : News h₀ L s.heap news) (U : Upd D (listOf us.toArray n) (listOf (us.eraseIdx i.toNat).toArray (n + 1)) news news') (hi : IntsAre us ps)
    (h0 : 0 ≤ i) (h1 : i < (us.length : Int)) (hz : us.length ≤ 13) (h : ∀ h' t, Fr h₀ L h' m → News h₀ L h' news' → Q (.int (ps.getD i.toNat 0) t) { s with heap := h' }) : wpAny (model prog w) A (call (.builtin "list.pop") [.ref D, .int i u]) Q E s := by
  have hk : i.toNat < us.length := by omega
  obtain ⟨t, ht⟩ := ints_at hi hk
  have e := kl_cut_at hk
  rw [ht] at e
  rw [List.eraseIdx_eq_take_drop_succ] at U
  refine kl_popAt F N ?_ ?_ (by simpa using e) U ?_ fun h' F' N' => h h' t F' N'
  · unfold Builtin.List.listFitsIndex
    simp only [Bool.and_eq_true, decide_eq_true_eq]; omega
  · rw [List.size_toArray]; exact seqIndex_of h0 h1
  · rw [sizeLine_eq]; simp; omega
end
theorem erase_perm {α : Type} : ∀ (l : List α) {j : Nat} (h : j < l.length), List.Perm (l[j] :: l.eraseIdx j) l
  | x :: r, 0, _ => .refl _
  | x :: r, j + 1, h => (List.Perm.swap _ _ _).trans (.cons x (erase_perm r (Nat.lt_of_succ_lt_succ h)))
theorem in_led {ts : List Tr} {x y z : Addr × Obj} {b : List (Addr × Obj)} : ∀ t ∈ ts, t.ent ∈ x :: y :: z :: (ts.map Tr.ent ++ b) := fun t ht => .tail _ (.tail _ (.tail _ (List.mem_append_left _ (List.mem_map_of_mem ht))))
theorem st_fin {h₀ h : Heap} {L D : Addr} {o : Obj} {ts ts' : List Tr} {x y z : Addr × Obj} {b : List (Addr × Obj)} (N : News h₀ L h ((D, o) :: x :: y :: z :: (ts.map Tr.ent ++ b))) (P : List.Perm ts' ts) : News h₀ L h ((D, o) :: (ts'.map Tr.ent ++ b)) := by
  intro p hp
  rcases List.mem_cons.mp hp with h | h
  · rw [h]; exact N _ (.head _)
  · rcases List.mem_append.mp h with h | h
    · exact N p (.tail _ (.tail _ (.tail _ (.tail _ (List.mem_append_left _ ((P.map Tr.ent).mem_iff.mp h))))))
    · exact N p (.tail _ (.tail _ (.tail _ (.tail _ (List.mem_append_right _ h)))))
theorem has_one {z a : Str} (h : z ≠ a) : [a].contains z = false := by simp [h]
structure StSt where
  us : List Value
  ps : List Int
  e1 : Nat
  ts : List Tr
  e2 : Nat
noncomputable def trOk (t : Tr) : Prop := 0 ≤ t.b ∧ t.b < 13 ∧ 0 ≤ t.p ∧ t.p < 6 ∧ 0 ≤ t.s ∧ t.s < 12821
noncomputable def stLed (sl st pl : Addr) (lo : Obj) (base : List (Addr × Obj)) (_ : Nat) (c : StSt) : List (Addr × Obj) := (sl, lo) :: (st, listOf (c.ts.map Tr.ref).toArray c.e2) :: (pl, listOf c.us.toArray c.e1) :: (c.ts.map Tr.ent ++ base)
noncomputable def stFacts (sl st pl : Addr) (base : List (Addr × Obj)) (i : Nat) (c : StSt) : Prop :=
  IntsAre c.us c.ps ∧ (c.us.length : Int) = 13 - i ∧ (∀ x ∈ c.ps, 0 ≤ x ∧ x < 13) ∧ (c.ts.map Tr.b ++ c.ps).Nodup ∧ c.ts.length = i ∧ (∀ t ∈ c.ts, trOk t) ∧ (∀ p ∈ c.ts.map Tr.ent ++ base, p.1 ≠ sl ∧ p.1 ≠ st ∧ p.1 ≠ pl)
noncomputable def stNames (_ : Nat) (_ : StSt) : List (Str × Value) := []
section
variable {prog : Program} {w : World} {A : Around} {E : Value → Shared → Prop} {s : Shared} {env : Env} {h₀ : Heap} {body orelse : List Stmt} {Q : Flow → Shared → Prop}
theorem st_loop {px : Pos} {sl st pl : Addr} {a b c_ d : Int} {ta tb tc td : Tok} {us : List Value} {k e1 : Nat} {m₀ : Str → Option Value} {base : List (Addr × Obj)}
    (hh : A.handled = none) (F : Fr h₀ env.locals s.heap m₀) (N : News h₀ env.locals s.heap ((sl, listOf #[.int a ta, .int b tb, .int c_ tc, .int d td] k) :: (st, listOf #[] 0) :: (pl, listOf us.toArray e1) :: base)) (hI : IntsAre us (rangeInts 0 1 13))
    (hb : ∀ p ∈ base, p.1 < pl) (h1 : pl < st) (h2 : st < sl) (hz : ∀ x ∈ [a, b, c_, d], 0 ≤ x ∧ x < 1000000)
    (turn : ∀ (c : StSt) (i : Nat) (n : Int) (t : Tok) (I : Addr) (oI : Obj) (u : Str → Option Value) h tk, i < 4 → 0 ≤ n → n < 1000000 → stFacts sl st pl base i c → (∀ p ∈ stLed sl st pl (listOf #[.int a ta, .int b tb, .int c_ tc, .int d td] k) base i c, p.1 ≠ I) →
      Fr h₀ env.locals h (fun y => if y = Str.ofString "number" then u y else kstB (fun z => if [Str.ofString "bit"].contains z then u z else m₀ z) [] y) → News h₀ env.locals h ((I, oI) :: stLed sl st pl (listOf #[.int a ta, .int b tb, .int c_ tc, .int d td] k) base i c) →
      wpAny (model prog w) A (assign (.Name (Str.ofString "number") px) env (.int n t)) (fun _ s₂ => wpAny (model prog w) A (execs body env) (TPost h₀ env.locals (TKN (stLed sl st pl (listOf #[.int a ta, .int b tb, .int c_ tc, .int d td] k) base) stNames (stFacts sl st pl base) (Str.ofString "number") [Str.ofString "bit"] m₀ (i + 1)) (I, oI) { s with heap := h, toks := tk } Q) E s₂) E { s with heap := h, toks := tk })
    (done : ∀ (c : StSt) (u : Str → Option Value) h tk, stFacts sl st pl base 4 c → Fr h₀ env.locals h (fun y => if y = Str.ofString "number" then u y else kstB (fun z => if [Str.ofString "bit"].contains z then u z else m₀ z) [] y) → News h₀ env.locals h (stLed sl st pl (listOf #[.int a ta, .int b tb, .int c_ tc, .int d td] k) base 4 c) →
      wpAny (model prog w) A (execs orelse env) Q E { s with heap := h, toks := tk })
    (hE : PassesOwn (model prog w) A env E := by passes_own) :
    wpAny (model prog w) A (pyIter (.ref sl)) (fun it s₂ => MyLoop prog w A (.Name (Str.ofString "number") px) body orelse env Q E it s₂) E s := by
  refine list_loopK (its := #[.int a ta, .int b tb, .int c_ tc, .int d td]) (k := k) (Str.ofString "number") (stLed sl st pl (listOf #[.int a ta, .int b tb, .int c_ tc, .int d td] k) base) stNames (stFacts sl st pl base) [Str.ofString "bit"] ⟨us, rangeInts 0 1 13, e1, [], 0⟩ hh (fun i c _ => .head _) F N ?_ nil_all ?_ done hE
  · refine ⟨hI, ?_, ?_, ?_, rfl, nil_all, fun p hp => ?_⟩
    · rw [IntsAre.length hI]; rfl
    · have : ∀ x ∈ rangeInts 0 1 13, 0 ≤ x ∧ x < 13 := by decide
      exact this
    · have : (rangeInts 0 1 13).Nodup := by decide
      exact this
    · have h3 := hb p hp
      exact ⟨Nat.ne_of_lt (Nat.lt_trans (Nat.lt_trans h3 h1) h2), Nat.ne_of_lt (Nat.lt_trans h3 h1), Nat.ne_of_lt h3⟩
  · intro c' i v I oI u h tk hv hf off F N
    have hi : i < 4 ∧ ∃ n t, v = .int n t ∧ 0 ≤ n ∧ n < 1000000 := by
      match i, hv with
      | 0, hv => cases hv; exact ⟨by decide, _, _, rfl, hz _ (by simp)⟩
      | 1, hv => cases hv; exact ⟨by decide, _, _, rfl, hz _ (by simp)⟩
      | 2, hv => cases hv; exact ⟨by decide, _, _, rfl, hz _ (by simp)⟩
      | 3, hv => cases hv; exact ⟨by decide, _, _, rfl, hz _ (by simp)⟩
      | j + 4, hv => cases hv
    obtain ⟨hi, n, t, rfl, hn0, hn1⟩ := hi
    exact turn c' i n t I oI u h tk hi hn0 hn1 hf off F N
end
section
variable {L : Addr} {m₀ m' : Str → Option Value} {base : List (Addr × Obj)} {s₁ : Shared} {h₀ h' : Heap} {tk : Nat} {lo oI : Obj}
theorem st_end {sl st pl I T : Addr} {σ : StSt} {i j : Nat} {n : Int} {t9 tp tq : Tok}
    (F : Fr h₀ L h' m') (N : News h₀ L h' ((T, { cls := .type "tuple", data := .seq #[.int (σ.ps.getD j 0) t9, .int ((n.fdiv 13).fmod 6) tp, .int (n.fdiv 78) tq] }) :: (I, oI) :: (sl, lo) :: (st, listOf ((σ.ts.map Tr.ref).toArray.push (.ref T)) (σ.e2 + 1)) :: (pl, listOf (σ.us.eraseIdx j).toArray (σ.e1 + 1)) :: (σ.ts.map Tr.ent ++ base)))
    (hi : i < 4) (hn0 : 0 ≤ n) (hn1 : n < 1000000) (hj : j < σ.us.length) (f : stFacts sl st pl base i σ) (off : ∀ p ∈ stLed sl st pl lo base i σ, p.1 ≠ I) (l1 : I < T ∧ sl < T ∧ st < T ∧ pl < T)
    (hr : ∀ z, z ≠ Str.ofString "number" → z ≠ Str.ofString "bit" → m' z = m₀ z) :
    TEnd h₀ L (TKN (stLed sl st pl lo base) stNames (stFacts sl st pl base) (Str.ofString "number") [Str.ofString "bit"] m₀ (i + 1)) (I, oI) s₁ { s₁ with heap := h', toks := tk } := by
  obtain ⟨i1, i2, i3, i4, i5, i6, i7⟩ := f
  obtain ⟨l1, l2, l3, l4⟩ := l1
  have hj' : j < σ.ps.length := by rw [← IntsAre.length i1]; exact hj
  have eg : σ.ps.getD j 0 = σ.ps[j] := by simp [hj']
  have hmem : σ.ps.getD j 0 ∈ σ.ps := by rw [eg]; exact List.getElem_mem _
  rw [List.push_toArray] at N
  refine tkn_end (⟨σ.us.eraseIdx j, σ.ps.eraseIdx j, σ.e1 + 1, σ.ts ++ [⟨T, σ.ps.getD j 0, (n.fdiv 13).fmod 6, n.fdiv 78, t9, tp, tq⟩], σ.e2 + 1⟩ : StSt) F N ?_ (.tail _ (.head _)) ?_ ⟨ints_erase i1 j, ?_, ?_, ?_, ?_, ?_, ?_⟩ nil_all ?_
  · intro p hp
    unfold stLed at hp
    simp only [List.map_append, List.map_cons, List.map_nil, List.append_assoc, List.mem_cons, List.mem_append, List.not_mem_nil, or_false] at hp ⊢
    rcases hp with h | h | h | h | h | h
    · exact .inr (.inr (.inl h))
    · exact .inr (.inr (.inr (.inl h)))
    · exact .inr (.inr (.inr (.inr (.inl h))))
    · exact .inr (.inr (.inr (.inr (.inr (.inl h)))))
    · exact .inl h
    · exact .inr (.inr (.inr (.inr (.inr (.inr h)))))
  · intro p hp
    unfold stLed at hp off
    simp only [List.map_append, List.map_cons, List.map_nil, List.append_assoc, List.mem_cons, List.mem_append, List.not_mem_nil, or_false] at hp
    rcases hp with h | h | h | h | h | h
    · rw [h]; exact off _ (.head _)
    · rw [h]; exact (off _ (.tail _ (.head _)) : (st, _).1 ≠ I)
    · rw [h]; exact (off _ (.tail _ (.tail _ (.head _))) : (pl, _).1 ≠ I)
    · exact off _ (.tail _ (.tail _ (.tail _ (List.mem_append_left _ h))))
    · rw [h]; exact Nat.ne_of_gt l1
    · exact off _ (.tail _ (.tail _ (.tail _ (List.mem_append_right _ h))))
  · show ((σ.us.eraseIdx j).length : Int) = _
    rw [List.length_eraseIdx_of_lt hj]; omega
  · intro x hx
    exact i3 x (List.mem_of_mem_eraseIdx hx)
  · show ((σ.ts ++ [_]).map Tr.b ++ σ.ps.eraseIdx j).Nodup
    rw [List.map_append, List.append_assoc]
    show (σ.ts.map Tr.b ++ (σ.ps.getD j 0 :: σ.ps.eraseIdx j)).Nodup
    rw [eg]
    exact (List.Perm.append_left _ (erase_perm σ.ps hj')).nodup_iff.mpr i4
  · show (σ.ts ++ [_]).length = i + 1
    rw [List.length_append, i5]; rfl
  · intro t ht
    rcases List.mem_append.mp ht with ht | ht
    · exact i6 t ht
    · rw [List.mem_singleton.mp ht]
      have hb := i3 _ hmem
      have h13 : 0 ≤ n.fdiv 13 := Int.fdiv_nonneg hn0 (by decide)
      have e78 : n.fdiv 78 = n / 78 := Int.fdiv_eq_ediv_of_nonneg _ (by decide)
      exact ⟨hb.1, hb.2, Int.fmod_nonneg_of_pos _ (by decide), Int.fmod_lt_of_pos _ (by decide), by show 0 ≤ n.fdiv 78; omega, by show n.fdiv 78 < 12821; omega⟩
  · intro p hp
    simp only [List.map_append, List.map_cons, List.map_nil, List.append_assoc, List.mem_cons, List.mem_append, List.not_mem_nil, or_false] at hp
    rcases hp with h | h | h
    · exact i7 p (List.mem_append_left _ h)
    · rw [h]; exact ⟨Nat.ne_of_gt l2, Nat.ne_of_gt l3, Nat.ne_of_gt l4⟩
    · exact i7 p (List.mem_append_right _ h)
  · intro z z0 _ z1
    exact hr z z0 (by rintro rfl; exact absurd z1 (by decide))
end
local macro_rules | `(tactic| walk_at "call builtin:sorted") => `(tactic| (k_here; (with_reducible show wpAny _ _ (call (Value.builtin _) [Value.ref _]) _ _ _); k_dflt (refine' sort4 ?F ?N ?kT ?kl ?k4 ?kn ?_; (case F => k_asm); (case N => k_asm); (case kT => exact in_led); (case kl => exact News.isList (by k_asm) (by k_mem)); (case k4 => assumption); (case kn => assumption); k_whole); intro D9 c9 ts9 h9 P9 S9 F9 N9 l9))
local macro_rules | `(tactic| walk_at "exec For Name Subscript cons nil") => `(tactic| (k_dflt (refine for_enter ?_)))
local macro_rules | `(tactic| walk_at "TPost") => `(tactic| (dsimp only [TPost]))
local macro_rules | `(tactic| walk_at "call type:list") => `(tactic| ((with_reducible show wpAny _ _ (call (Value.type _) [Value.ref _]) _ _ _); (rename IsRange _ _ _ _ _ _ _ _ => R'); (with_unfolding_all refine range_led rfl (by assumption) (by assumption) R' ?_); intro D9 c9 ys9 h9 tk9 I9 F9 N9 l9; k_lt l9))
local macro_rules | `(tactic| walk_at "call builtin:len") => `(tactic| (k_here; (with_reducible show wpAny _ _ (call (Value.builtin "len") [Value.ref _]) _ _ _); k_dflt (refine' len_led ?k1 ?k2 ?k4 ?k3 ?_; (case k1 => k_asm); (case k2 => k_mem); (case k4 => with_unfolding_all assumption); (case k3 => omega); k_whole)))
local macro_rules | `(tactic| walk_at "call builtin:list.pop") => `(tactic| (k_here; (with_reducible show wpAny _ _ (call (Value.builtin _) [Value.ref _, Value.int _ _]) _ _ _); k_dflt (refine' st_pop ?F ?N ?U ?I ?k0 ?k1 ?kz ?_; (case F => k_asm); (case N => k_asm); (case U => k_upd); (case I => assumption); (case k0 => assumption); (case k1 => assumption); (case kz => omega); k_whole); intro h9 t9 F9 N9; (try dsimp only [List.nil_append, List.cons_append] at N9)))
local macro_rules | `(tactic| k_all) => `(tactic| assumption)
theorem steps_spec (w : World) (r : Addr) (a b c d e : Int) (ta tb tc td te : Tok) (k : Nat) (ha : 0 ≤ a) (ha' : a < 1000000) (hb : 0 ≤ b) (hb' : b < 1000000) (hc : 0 ≤ c) (hc' : c < 1000000) (hd : 0 ≤ d) (hd' : d < 1000000) (news : List (Addr × Obj)) :
    Spec 2 w (.ref 327) [.ref r] [] ((r, listOf #[.int a ta, .int b tb, .int c tc, .int d td, .int e te] k) :: news) (fun v news' => ∃ (D : Addr) (cc : Nat) (ts : List Tr), v = .ref D ∧ ts.length = 4 ∧ (ts.map Tr.b).Pairwise (· < ·) ∧ (∀ t ∈ ts, trOk t) ∧ news' = (D, listOf (ts.map Tr.ref).toArray cc) :: (ts.map Tr.ent ++ (r, listOf #[.int a ta, .int b tb, .int c tc, .int d td, .int e te] k) :: news)) := by
  have zz : (fun (_ : Params → Frag) (_ : OpenLaw) => True) K PySem.Challenge.rw_sn0070_01 := by k_fill; trivial
  clear zz
  unfold Spec
  intros
  rename_i hret
  refine wpAny_call ?_
  k_dflt k_enter
  k_steps
  rename News _ _ _ _ => hN
  rename Fr _ _ _ _ => hF
  rename IntsAre _ _ => I9
  rename _ ∧ _ ∧ _ ∧ AllLt _ _ => l3
  rename _ ∧ _ ∧ AllLt _ _ => l2
  rename _ ∧ AllLt _ _ => l1
  obtain ⟨m1, m2, m3, -⟩ := l3
  obtain ⟨m4, m5, -⟩ := l2
  obtain ⟨m6, m7⟩ := l1
  have q1 := Nat.ne_of_gt m1
  have q2 := Nat.ne_of_gt m2
  have q3 := Nat.ne_of_gt m4
  refine' st_loop rfl hF hN I9 (List.forall_mem_cons.mpr ⟨m6, ktn_ltOf m7⟩) m4 m1 ?hz ?turn ?done
  case hz => exact List.forall_mem_cons.mpr ⟨⟨ha, ha'⟩, List.forall_mem_cons.mpr ⟨⟨hb, hb'⟩, List.forall_mem_cons.mpr ⟨⟨hc, hc'⟩, List.forall_mem_cons.mpr ⟨⟨hd, hd'⟩, nil_all⟩⟩⟩⟩
  clear hF hN
  case turn =>
    intro σ i n t I oI u h tk hi hn0 hn1 hf off F N
    obtain ⟨i1, i2, i3, i4, i5, i6, i7⟩ := hf
    have k0 : (13 - (i : Int)) ≠ 0 := by omega
    have k1 : 0 ≤ n.fmod (13 - (i : Int)) := Int.fmod_nonneg_of_pos _ (by omega)
    have k2 : n.fmod (13 - (i : Int)) < (σ.us.length : Int) := by rw [i2]; exact Int.fmod_lt_of_pos _ (by omega)
    have o1 : @Ne Nat _ _ := off _ (.head _)
    have o2 : @Ne Nat _ _ := off _ (.tail _ (.head _))
    have o3 : @Ne Nat _ _ := off _ (.tail _ (.tail _ (.head _)))
    have o4 : ∀ p ∈ σ.ts.map Tr.ent ++ _, p.1 ≠ I := fun p hp => off p (.tail _ (.tail _ (.tail _ hp)))
    have o5 := fun p hp => (i7 p hp).1
    have o6 := fun p hp => (i7 p hp).2.1
    have o7 := fun p hp => (i7 p hp).2.2
    dsimp only at o1 o2 o3
    unfold stLed at N
    k_steps
    rename News _ _ _ _ => N9
    rename Fr _ _ _ _ => F9
    rename _ ∧ _ ∧ _ ∧ _ ∧ AllLt _ _ => l9
    refine st_end F9 N9 hi hn0 hn1 (by omega) ⟨i1, i2, i3, i4, i5, i6, i7⟩ off ⟨l9.1, l9.2.1, l9.2.2.1, l9.2.2.2.1⟩ ?_
    intro z z0 z1
    simp only [if_neg z1, if_neg z0, kstB, has_one z1, Bool.false_eq_true, if_false]
  case done =>
    intro σ u h tk hf F N
    obtain ⟨i1, i2, i3, i4, i5, i6, i7⟩ := hf
    unfold stLed at N
    have j2 : (σ.ts.map Tr.b).Nodup := (List.nodup_append.mp i4).1
    k_steps
    rename News _ _ _ _ => N9
    rename List.Perm _ _ => P9
    rename List.Pairwise _ _ => S9
    exact hret _ _ _ _ ⟨_, _, _, rfl, (P9.length_eq.trans i5), S9, fun t ht => i6 t (P9.mem_iff.mp ht), rfl⟩ (by k_asm) (st_fin N9 P9)
end Mine
end
section
namespace Mine
open PySem.Sre in
theorem adm_none (m : M) (hl : m.lim ≤ m.text.size) (hg : ∀ c ∈ m.text.toList, ∀ seen, ∃ seen', inSet m.code c m.code.size 5 true seen = .ok (false, seen')) : ∀ (fuel s : Nat) (seen : Sre.Seen), ∃ seen', M.admitted m fuel s seen = .ok (none, seen')
  | 0, s, seen => ⟨seen, rfl⟩
  | fuel + 1, s, seen => by
    unfold M.admitted
    by_cases h : s ≥ m.lim
    · rw [if_pos h]; exact ⟨_, rfl⟩
    · rw [if_neg h]
      have hs : s < m.text.size := by omega
      have e : m.text.getD s 0 = m.text[s] := by simp [Array.getD, hs]
      obtain ⟨seen', h'⟩ := hg (m.text.getD s 0) (by rw [e, ← Array.getElem_toList]; exact List.getElem_mem _) seen
      rw [h']
      exact adm_none m hl hg fuel (s + 1) seen'
theorem adm_cases {code text : Array Nat} {m : Sre.M} {fuel p : Nat} {seen : Sre.Seen} {r : Except String (Option Nat × Sre.Seen)} (hc : m.code = code) (ht : m.text = text) (hl : m.lim ≤ m.text.size)
    (hg : ∀ c ∈ text.toList, ∀ seen, ∃ seen', Sre.inSet code c code.size 5 true seen = .ok (false, seen')) (e : Sre.M.admitted m fuel p seen = r) : ∃ seen', r = .ok (none, seen') := by
  subst hc ht e
  exact adm_none m hl hg fuel p seen
noncomputable def nameCode : Array Nat := #[14, 10, 4, 1, 1, 22, 0, 31, 16, 127, 0, 13, 7, 22, 0, 31, 16, 127, 0, 1]
noncomputable def valueCode : Array Nat := #[14, 14, 4, 1, 1, 9, 4294966783, 0, 0, 2147483648, 0, 0, 0, 0, 0, 13, 11, 9, 4294966783, 0, 0, 2147483648, 0, 0, 0, 0, 0, 1]
noncomputable def okChar (code : Array Nat) (c : Nat) : Prop := ∀ seen, ∃ seen', Sre.inSet code c code.size 5 true seen = .ok (false, seen')
theorem run_failed {code text : Array Nat} (h1 : (Sre.header code).1 = 1) (h2 : ∀ m : Sre.M, m.code = code → m.hasFirstSet = true) (hg : ∀ c ∈ text.toList, okChar code c) :
    (Sre.M.runFor 4 (Sre.forSearch code text 0 0 text.size false)).outcome = some .failed := by
  unfold Sre.forSearch
  rw [h1]
  dsimp only
  split
  · rfl
  · unfold Sre.M.attemptFrom
    rw [h2 _ rfl]
    simp only [Bool.not_true, Bool.false_eq_true, if_false]
    split
    · rename_i e
      obtain ⟨s', e'⟩ := adm_cases rfl rfl (Nat.le_refl _) hg e
      cases e'
    · rfl
    · rename_i e
      obtain ⟨s', e'⟩ := adm_cases rfl rfl (Nat.le_refl _) hg e
      cases e'
theorem name_failed {text : Array Nat} (hg : ∀ c ∈ text.toList, okChar nameCode c) : (Sre.M.runFor 4 (Sre.forSearch nameCode text 0 0 text.size false)).outcome = some .failed :=
  run_failed (by rfl) (fun m h => by unfold Sre.M.hasFirstSet; rw [h]; rfl) hg
theorem value_failed {text : Array Nat} (hg : ∀ c ∈ text.toList, okChar valueCode c) : (Sre.M.runFor 4 (Sre.forSearch valueCode text 0 0 text.size false)).outcome = some .failed :=
  run_failed (by rfl) (fun m h => by unfold Sre.M.hasFirstSet; rw [h]; rfl) hg
theorem okChar_name {c : Nat} (h1 : 32 ≤ c) (h2 : c ≠ 127) : okChar nameCode c := by
  intro seen
  have e1 : ¬ (0 ≤ c ∧ c ≤ 31) := by omega
  refine ⟨((seen.add 22).add 16).add 0, ?_⟩
  show (if (decide (0 ≤ c) && decide (c ≤ 31)) = true then _ else if (c == 127) = true then _ else _) = _
  rw [if_neg (by simp; omega), if_neg (by simpa using h2)]
  rfl
theorem slot_search : Slot "re.Pattern" "search" "re.Pattern.search" :=
  .of (owner := "re.Pattern") (n := "search") (by rw [typeLookup_type, builtinLookup_eq_fast]; kernel_rfl) (by decide +kernel) (by decide +kernel) (by decide +kernel)
    (by first | exact .inl (by decide +kernel) | exact .inr (by decide +kernel)) (by rw [isSubtype_type]; kernel_rfl)
theorem type_search : typeOf (.builtin "re.Pattern.search") = pure (.type "method_descriptor") := by show builtinType _ = _; rw [builtinType_eq_fast]; kernel_rfl
theorem plainAttrs_re : PlainAttrs "re.Pattern" :=
  ⟨⟨"object.__getattribute__", by rw [typeLookup_type, builtinLookup_eq_fast]; kernel_rfl, by decide +kernel⟩, by rw [typeLookup_type, builtinLookup_eq_fast]; kernel_rfl⟩
theorem owner_re : Manifest.owners.lookup (String.ofList ['n', 'r', 'e', 't', 't', 'a', 'P', '.', 'e', 'r'].reverse) = some Manifest.sig_re_Pattern := by kernel_rfl
theorem entry_search : entryFor table "re.Pattern.search" = some Builtin.«re.Pattern.search» := entryFor_of_tree (by kernel_rfl)
theorem args_search (a b : Value) : argsOk "re.Pattern.search" ⟨[a, b], []⟩ := by
  unfold argsOk; rw [signature?_of (id := "re.Pattern.search") (n := ['h', 'c', 'r', 'a', 'e', 's']) (o := ['n', 'r', 'e', 't', 't', 'a', 'P', '.', 'e', 'r']) (by kernel_rfl) owner_re]; kernel_rfl
section
variable {prog : Program} {w : World} {A : Around} {E : Value → Shared → Prop} {s : Shared}
theorem rules_pass {Q : PUnit → Shared → Prop} (f : Nat → Bool) (g : Nat → String) (h : Q ⟨⟩ s) : ∀ l : List Nat, wpAny (model prog w) A (forIn l PUnit.unit fun i _ => if f i = true then do { rule (g i); pure (ForInStep.yield PUnit.unit) } else pure (ForInStep.yield PUnit.unit)) Q E s
  | [] => by rw [List.forIn_nil]; exact wpAny_pure h
  | i :: l => by
    rw [List.forIn_cons]
    refine wpAny_bind ?_
    by_cases hf : f i = true
    · simp only [if_pos hf]
      exact wpAny_bind (wpAny_rule (wpAny_pure (rules_pass f g h l)))
    · simp only [if_neg hf]
      exact wpAny_pure (rules_pass f g h l)
theorem run_to_end {m : Sre.M} {Q : Option Sre.M → Shared → Prop} (hf : (m.runFor 4).outcome = some .failed) (h : Q none s) : wpAny (model prog w) A (Builtin.Re.reRunToEnd m) Q E s := by
  unfold Builtin.Re.reRunToEnd
  have ed : wpAny (model prog w) A (Builtin.Re.reDrive (2 ^ 64) m) (fun m' s' => m' = m.runFor 4 ∧ s' = s) E s := by
    show wpAny (model prog w) A (Builtin.Re.reDrive (18446744073709551615 + 1) m) _ E s
    unfold Builtin.Re.reDrive
    dsimp only [Builtin.Re.reTurnSteps]
    rw [hf]
    exact wpAny_pure ⟨rfl, rfl⟩
  refine wpAny_bind (wpAny_mono ed ?_ fun _ _ e => e)
  rintro _ _ ⟨rfl, rfl⟩
  refine wpAny_bind ?_
  refine rules_pass (fun i => (m.runFor 4).seen.has i) (fun i => Sre.names.getD i "") ?_ _
  rw [hf]
  exact wpAny_pure h
theorem named_eq (id f : String) (v : Value) : Builtin.Re.reNamed id f ["string", "pos", "endpos"] 1 [v] [] = pure [some v, none, none] := by rfl
theorem textOf_eq (x : Str) (t : Tok) : Builtin.Re.reTextOf (.str x t) = pure (x.cps, 0) := by rfl
theorem search_none {a c : Addr} {x : Str} {t t0 t1 : Tok} {p0 p1 p3 p4 : Value} {items : Array Value} {n : Nat} {code : Array Nat} {Q : Value → Shared → Prop}
    (hp : s.heap.get? a = some { cls := .type "re.Pattern", data := .fields #[p0, p1, .int 0 t0, p3, p4, .ref c, .int 0 t1] }) (hc : s.heap.get? c = some { cls := .type "tuple", data := .seq items n })
    (hi : (items.map Builtin.Re.reRawOf).map (·.toNat) = code) (hf : (Sre.M.runFor 4 (Sre.forSearch code x.cps 0 0 x.cps.size false)).outcome = some .failed) (hx : x.cps.size < 2 ^ 63 - 1) (h : Q .none s) :
    wpAny (model prog w) A (call (.builtin "re.Pattern.search") [.ref a, .str x t]) Q E s := by
  refine wpAny_call_entry slot_search ⟨_, hp, rfl⟩ entry_search ?_ (args_search _ _)
  unfold Builtin.«re.Pattern.search»
  refine wpAny_bind ?_
  unfold Builtin.Re.reTarget
  dsimp only
  rw [named_eq]
  refine wpAny_bind (wpAny_pure ?_)
  refine wpAny_bind (wpAny_pure (wpAny_bind (wpAny_pure ?_)))
  refine wpAny_bind (wpAny_fieldsOf hp rfl ?_)
  rw [textOf_eq]
  refine wpAny_bind (wpAny_pure ?_)
  refine wpAny_bind (wpAny_pure ?_)
  refine wpAny_bind ?_
  have e1 : wpAny (model prog w) A.in1 (Builtin.Re.reRawItems (.ref c)) (fun r s' => r = items.map Builtin.Re.reRawOf ∧ s' = s) E s := by
    unfold Builtin.Re.reRawItems
    refine wpAny_bind ?_
    unfold seqItems?
    dsimp only
    exact wpAny_bind (wpAny_load hc (wpAny_pure (wpAny_pure ⟨rfl, rfl⟩)))
  refine wpAny_mono (show wpAny (model prog w) A.in1 (Builtin.Re.reRawItems (.ref c)) _ E s from e1) ?_ fun _ _ e => e
  rintro _ _ ⟨rfl, rfl⟩
  refine wpAny_pure ?_
  rw [hi]
  unfold Builtin.Re.reAnswer
  refine wpAny_bind (run_to_end ?_ (wpAny_pure ⟨_, rfl, h⟩))
  have e2 : min (2 ^ 63 - 1 : Int).toNat x.cps.size = x.cps.size := by omega
  have e3 : min (Int.toNat 0) x.cps.size = 0 := by simp
  dsimp only
  rw [e2, e3]
  exact hf
theorem search_method {a : Addr} {p0 p1 p2 p3 p4 p5 p6 : Value} {pl : Sem Bool} {Q : Value × List Value → Shared → Prop} (hp : s.heap.get? a = some { cls := .type "re.Pattern", data := .fields #[p0, p1, p2, p3, p4, p5, p6] })
    (h : Q (.builtin "re.Pattern.search", [.ref a]) s) : wpAny (model prog w) A (getMethod (.ref a) (Str.ofString "search") pl) Q E s :=
  getMethod_builtin ⟨_, hp, rfl⟩ plainAttrs_re slot_search type_search (fun a e => by cases e; exact ⟨_, hp, rfl⟩) h
end
theorem okChar_value : ∀ c ∈ [9, 32, 173, 847, 6150, 6155, 6156, 6157, 8203, 8204, 8205, 8288, 65279] ++ List.range' 65024 16, okChar valueCode c := by
  have key : ∀ c, (if (c < 256 && (valueCode.getD (5 + (1 + c / 32)) 0).testBit (c % 32)) = true then true else false) = false → okChar valueCode c := by
    intro c h seen
    refine ⟨(seen.add 9).add 0, ?_⟩
    show (if (decide (c < 256) && (valueCode.getD (5 + (1 + c / 32)) 0).testBit (c % 32)) = true then _ else _) = _
    split at h
    · cases h
    · rename_i h'
      rw [if_neg h']
      rfl
  intro c hc
  exact key c ((by decide +kernel : ∀ c ∈ [9, 32, 173, 847, 6150, 6155, 6156, 6157, 8203, 8204, 8205, 8288, 65279] ++ List.range' 65024 16, (if (c < 256 && (valueCode.getD (5 + (1 + c / 32)) 0).testBit (c % 32)) = true then true else false) = false) c hc)
end Mine
end
section
namespace Mine
noncomputable def NameOk (x : Str) : Prop := (∀ c ∈ x.cps.toList, okChar nameCode c) ∧ x.cps.size ≤ 100
noncomputable def ValueOk (x : Str) : Prop := (∀ c ∈ x.cps.toList, okChar valueCode c) ∧ x.cps.size ≤ 100
section
variable {w : World} {A : Around} {E : Value → Shared → Prop} {s : Shared} {h₀ : Heap} {L : Addr} {m : Str → Option Value} {pl : Sem Bool}
theorem name_method {Q : Value × List Value → Shared → Prop} (X : (K w.params).In h₀) (F : Fr h₀ L s.heap m) (h : Q (.builtin "re.Pattern.search", [.ref 140]) s) :
    wpAny (model PySem.Challenge.rw_sn0070_01.row.prog w) A (getMethod (.ref 140) (Str.ofString "search") pl) Q E s :=
  search_method (F.keep _ _ (X 140 (n140_p3 w.params) (by kernel_rfl))) h
theorem value_method {Q : Value × List Value → Shared → Prop} (X : (K w.params).In h₀) (F : Fr h₀ L s.heap m) (h : Q (.builtin "re.Pattern.search", [.ref 145]) s) :
    wpAny (model PySem.Challenge.rw_sn0070_01.row.prog w) A (getMethod (.ref 145) (Str.ofString "search") pl) Q E s :=
  search_method (F.keep _ _ (X 145 (n145_p3 w.params) (by kernel_rfl))) h
theorem name_search {x : Str} {t : Tok} {Q : Value → Shared → Prop} (X : (K w.params).In h₀) (F : Fr h₀ L s.heap m) (hx : NameOk x) (h : Q .none s) :
    wpAny (model PySem.Challenge.rw_sn0070_01.row.prog w) A (call (.builtin "re.Pattern.search") [.ref 140, .str x t]) Q E s :=
  search_none (F.keep _ _ (X 140 (n140_p3 w.params) (by kernel_rfl))) (F.keep _ _ (X 139 (n139_p3 w.params) (by kernel_rfl))) (by simp [nameCode, Builtin.Re.reRawOf]) (name_failed hx.1) (Nat.lt_of_le_of_lt hx.2 (by decide)) h
theorem value_search {x : Str} {t : Tok} {Q : Value → Shared → Prop} (X : (K w.params).In h₀) (F : Fr h₀ L s.heap m) (hx : ValueOk x) (h : Q .none s) :
    wpAny (model PySem.Challenge.rw_sn0070_01.row.prog w) A (call (.builtin "re.Pattern.search") [.ref 145, .str x t]) Q E s :=
  search_none (F.keep _ _ (X 145 (n145_p3 w.params) (by kernel_rfl))) (F.keep _ _ (X 144 (n144_p3 w.params) (by kernel_rfl))) (by simp [valueCode, Builtin.Re.reRawOf]) (value_failed hx.1) (Nat.lt_of_le_of_lt hx.2 (by decide)) h
end
local macro_rules | `(tactic| walk_at "getMethod ref") => `(tactic| (k_here; (with_reducible show wpAny _ _ (getMethod (Value.ref _) (PySem.Str.ofString "search") _) _ _ _); k_dflt (first | refine name_method (by k_asm) (by k_asm) ?_ | refine value_method (by k_asm) (by k_asm) ?_)))
local macro_rules | `(tactic| walk_at "call builtin:re.Pattern.search") => `(tactic| (k_here; k_dflt (first | refine name_search (by k_asm) (by k_asm) (by with_unfolding_all assumption) ?_ | refine value_search (by k_asm) (by k_asm) (by with_unfolding_all assumption) ?_)))
theorem conv_name (w : World) (o : Addr) (x : Str) (hx : NameOk x) (tk : Tok) (news : List (Addr × Obj)) : Spec 1 w (.ref 175) [.ref o, .str x tk] [(Str.ofString "name", .bool true)] news (fun v news' => v = .str x tk ∧ news' = news) := by
  have zz : (fun (_ : Params → Frag) (_ : OpenLaw) => True) K PySem.Challenge.rw_sn0070_01 := by k_fill; trivial
  clear zz
  unfold Spec
  intros
  rename_i hret
  refine wpAny_call ?_
  k_dflt k_enter
  k_steps
  · exact hret _ _ _ _ ⟨rfl, rfl⟩ (by k_asm) (by k_asm)
theorem conv_value (w : World) (o : Addr) (x : Str) (hx : ValueOk x) (tk : Tok) (news : List (Addr × Obj)) : Spec 1 w (.ref 175) [.ref o, .str x tk] [(Str.ofString "name", .bool false)] news (fun v news' => v = .str x tk ∧ news' = news) := by
  have zz : (fun (_ : Params → Frag) (_ : OpenLaw) => True) K PySem.Challenge.rw_sn0070_01 := by k_fill; trivial
  clear zz
  unfold Spec
  intros
  rename_i hret
  refine wpAny_call ?_
  k_dflt k_enter
  k_steps
  · exact hret _ _ _ _ ⟨rfl, rfl⟩ (by k_asm) (by k_asm)
end Mine
end
section
namespace Mine
local macro_rules | `(tactic| walk_at "exec For Tuple Name cons nil") => `(tactic| (k_dflt (refine for_enter ?_)))
local macro_rules | `(tactic| walk_at "TPost") => `(tactic| (dsimp only [TPost]))
theorem new_spec (w : World) (news : List (Addr × Obj)) : Spec 3 w (.ref 276) [] [] news (fun v news' => ∃ x d l t, v = .ref x ∧ news' = (l, listOf #[] 0) :: (x, instObj 276 d) :: (d, dictOf [dE w "_headers" t (.ref l)] 1) :: news ∧ (x < l ∧ d < l ∧ AllLt l news)) := by
  have zz : (fun (_ : Params → Frag) (_ : OpenLaw) => True) K PySem.Challenge.rw_sn0070_01 := by k_fill; trivial
  clear zz
  unfold Spec
  intros
  rename_i hret
  k_steps
  rename News _ _ _ _ => hN
  rename Fr _ _ _ _ => hF
  refine list_turns (vs := []) rfl hF hN ⟨.head _, ?_⟩
  intro h tk F N
  clear hF hN
  k_steps
  exact hret _ _ _ _ ⟨_, _, _, _, rfl, rfl, by assumption⟩ (by k_asm) (by k_asm)
local macro_rules | `(tactic| k_all) => `(tactic| assumption)
local macro_rules | `(tactic| walk_at "call ref") => `(tactic| (k_here; (show wpAny _ _ (call (Value.ref 175) [Value.ref _, Value.str _ _] _) _ _ _); k_dflt (first
  | (refine' Spec.use ?B1 ?F1 ?X1 ?N1 ?T1 (conv_value _ _ _ ?G1 _ _) ?D1 ?U1 ?_; (case G1 => with_unfolding_all assumption); (case B1 => k_asm); (case F1 => k_asm); (case X1 => k_asm); (case N1 => k_asm); (case T1 => k_asm); (case D1 => ktr_room); (case U1 => ktr_units); k_whole)
  | (refine' Spec.use ?B1 ?F1 ?X1 ?N1 ?T1 (conv_name _ _ _ ?G1 _ _) ?D1 ?U1 ?_; (case G1 => with_unfolding_all assumption); (case B1 => k_asm); (case F1 => k_asm); (case X1 => k_asm); (case N1 => k_asm); (case T1 => k_asm); (case D1 => ktr_room); (case U1 => ktr_units); k_whole)); intro v9 n9 h9 tk9 hP9 F9 N9; obtain ⟨e8, e9⟩ := hP9; subst e8; subst e9; (try dsimp only); (try k_fold)))
theorem add_spec (w : World) (x d l : Addr) (t : Tok) (nm vl : Str) (t1 t2 : Tok) (vs : List Value) (e : Nat) (rest : List (Addr × Obj)) (h1 : NameOk nm) (h2 : ValueOk vl) (hv : vs.length ≤ 20) (hl : ∀ p ∈ rest, p.1 ≠ l) (hx : @Ne Nat x l) (hd : @Ne Nat d l) :
    Spec 2 w (.ref 273) [.ref x, .str nm t1, .str vl t2] [] ((x, instObj 276 d) :: (d, dictOf [dE w "_headers" t (.ref l)] 1) :: (l, listOf vs.toArray e) :: rest) (fun v news' => ∃ T u1 u2, v = .none ∧ news' = (T, { cls := .type "tuple", data := .seq #[.str nm u1, .str vl u2] }) :: (x, instObj 276 d) :: (d, dictOf [dE w "_headers" t (.ref l)] 1) :: (l, listOf (vs ++ [Value.ref T]).toArray (e + 1)) :: rest ∧ (x < T ∧ d < T ∧ l < T ∧ AllLt T rest)) := by
  have zz : (fun (_ : Params → Frag) (_ : OpenLaw) => True) K PySem.Challenge.rw_sn0070_01 := by k_fill; trivial
  clear zz
  unfold Spec
  intros
  rename_i hret
  refine wpAny_call ?_
  k_dflt k_enter
  k_steps
  rename News _ _ _ _ => hN
  refine join_listW (ys := [vl]) (News.isList hN (.tail _ (.head _))) (StrsAre.cons _ _ .nil) (by decide +kernel) ?_ ?_
  · have := h2.2
    show vl.cps.size + 0 + 1 ≤ _
    omega
  intro t' k'
  have ej : PySem.Txt.join (Str.ofString "; ") [vl] = vl := by first | rfl | simp [PySem.Txt.join]
  rw [ej]
  have hN2 := cb_drop (news := (x, instObj 276 d) :: (d, dictOf [dE w "_headers" t (.ref l)] 1) :: (l, listOf vs.toArray e) :: rest) hN (fun p hp => .tail _ (.tail _ (.tail _ hp)))
  clear hN
  have hN := hN2
  clear hN2
  k_steps
  rename News _ _ _ _ => N9
  rw [List.push_toArray] at N9
  exact hret _ _ _ _ ⟨_, _, _, rfl, rfl, by assumption⟩ (by k_asm) N9
end Mine
end
local macro_rules | `(tactic| walk_at "binaryOp Mult str int") => `(tactic| (k_here; (with_reducible show wpAny _ _ (binaryOp Operator.Mult (Value.str _ _) (Value.int _ _)) _ _ _); k_dflt (refine' KXi.mul (n := 1) ?kA ?kB ?kC ?kD ?_; (case kA => decide +kernel); (case kB => decide); (case kC => omega); (case kD => omega); k_whole); intro _ _ zN zP; clear zN; (have zL := zP (by omega)); clear zP))
local macro_rules | `(tactic| walk_at "binaryOp Add str str") => `(tactic| (k_here; (with_reducible show wpAny _ _ (binaryOp Operator.Add (Value.str _ _) (Value.str _ _)) _ _ _); k_dflt (refine' SBL.add ?_ ?kA; (case kA => (rw [sizeLine_eq]; omega)); k_whole); intro _ _ zA))
local macro_rules | `(tactic| walk_at "call builtin:str.lower") => `(tactic| (k_here; k_dflt (refine' SCL.lower ?kA ?_; (case kA => omega); k_whole); intro _))
section
namespace Mine
/-- a header: a tuple of two strs -/
structure Hd where
  a : Addr
  k : Str
  v : Str
  tk : Tok
  tv : Tok
noncomputable def Hd.ent (h : Hd) : Addr × Obj := (h.a, { cls := .type "tuple", data := .seq #[.str h.k h.tk, .str h.v h.tv] })
noncomputable def Hd.ref (h : Hd) : Value := .ref h.a
noncomputable def hdMatch (nm : Str) (h : Hd) : Bool := PySem.Txt.lower h.k == PySem.Txt.lower nm
noncomputable def hdOk (h : Hd) : Prop := h.k.length ≤ 100
noncomputable def gtLed (base : List (Addr × Obj)) (_ : Nat) (_ : Unit) : List (Addr × Obj) := base
noncomputable def gtNames (_ : Nat) (_ : Unit) : List (Str × Value) := []
noncomputable def gtFacts (hs : List Hd) (nm : Str) (h0 : Hd) (i : Nat) (_ : Unit) : Prop := (hs.drop i).find? (hdMatch nm) = some h0
section
variable {prog : Program} {w : World} {A : Around} {E : Value → Shared → Prop} {s : Shared} {env : Env} {h₀ : Heap} {target : Expr} {body orelse : List Stmt} {Q : Flow → Shared → Prop}
theorem gt_loop {l : Addr} {hs : List Hd} {e : Nat} {nm : Str} {h0 : Hd} {m₀ : Str → Option Value} {y z : Addr × Obj} {rest : List (Addr × Obj)}
    (hh : A.handled = none) (F : Fr h₀ env.locals s.heap m₀) (N : News h₀ env.locals s.heap (y :: z :: (l, listOf (hs.map Hd.ref).toArray e) :: (hs.map Hd.ent ++ rest))) (hf : hs.find? (hdMatch nm) = some h0)
    (turn : ∀ (i : Nat) (c : Hd) (I : Addr) (oI : Obj) (u : Str → Option Value) h tk, hs[i]? = some c → c ∈ hs → (hs.drop i).find? (hdMatch nm) = some h0 → hs.drop i = c :: hs.drop (i + 1) → (∀ p ∈ y :: z :: (l, listOf (hs.map Hd.ref).toArray e) :: (hs.map Hd.ent ++ rest), p.1 ≠ I) →
      Fr h₀ env.locals h (fun y => if y = Str.ofString "k" then u y else kstB (fun z => if [Str.ofString "v"].contains z then u z else m₀ z) [] y) → News h₀ env.locals h ((I, oI) :: (c.a, { cls := .type "tuple", data := .seq #[.str c.k c.tk, .str c.v c.tv] }) :: y :: z :: (l, listOf (hs.map Hd.ref).toArray e) :: (hs.map Hd.ent ++ rest)) →
      wpAny (model prog w) A (assign target env (.ref c.a)) (fun _ s₂ => wpAny (model prog w) A (execs body env) (TPost h₀ env.locals (TKN (gtLed (y :: z :: (l, listOf (hs.map Hd.ref).toArray e) :: (hs.map Hd.ent ++ rest))) gtNames (gtFacts hs nm h0) (Str.ofString "k") [Str.ofString "v"] m₀ (i + 1)) (I, oI) { s with heap := h, toks := tk } Q) E s₂) E { s with heap := h, toks := tk })
    (hE : PassesOwn (model prog w) A env E := by passes_own) :
    wpAny (model prog w) A (pyIter (.ref l)) (fun it s₂ => MyLoop prog w A target body orelse env Q E it s₂) E s := by
  refine list_loopK (its := (hs.map Hd.ref).toArray) (k := e) (Str.ofString "k") (gtLed (y :: z :: (l, listOf (hs.map Hd.ref).toArray e) :: (hs.map Hd.ent ++ rest))) gtNames (gtFacts hs nm h0) [Str.ofString "v"] () hh (fun i c _ => .tail _ (.tail _ (.head _))) F N hf nil_all ?_ ?_ hE
  · intro _ i v I oI u h tk hv hf' off F' N'
    have hv' : (hs.map Hd.ref)[i]? = some v := by simpa using hv
    rw [List.getElem?_map] at hv'
    obtain ⟨c, hc, rfl⟩ := Option.map_eq_some_iff.mp hv'
    have hl : i < hs.length := by
      rcases Nat.lt_or_ge i hs.length with h | h
      · exact h
      · rw [List.getElem?_eq_none h] at hc; cases hc
    have hm : c ∈ hs := List.mem_of_getElem? hc
    have hd : hs.drop i = c :: hs.drop (i + 1) := by
      rw [List.drop_eq_getElem_cons hl]
      rw [List.getElem?_eq_getElem hl] at hc
      rw [Option.some.inj hc]
    refine turn i c I oI u h tk hc hm hf' hd off F' ?_
    refine List.forall_mem_cons.mpr ⟨N' _ (.head _), List.forall_mem_cons.mpr ⟨?_, fun p hp => N' p (.tail _ hp)⟩⟩
    exact N' c.ent (.tail _ (.tail _ (.tail _ (.tail _ (List.mem_append_left _ (List.mem_map_of_mem hm))))))
  · intro _ u h tk hf' F' N'
    exfalso
    unfold gtFacts at hf'
    rw [List.size_toArray, List.length_map, List.drop_length] at hf'
    cases hf'
theorem gt_end {L : Addr} {hs : List Hd} {nm : Str} {h0 c : Hd} {i : Nat} {m₀ m' : Str → Option Value} {base : List (Addr × Obj)} {s₁ : Shared} {h' : Heap} {tk : Nat} {I : Addr} {oI : Obj} {z : Addr × Obj}
    (F : Fr h₀ L h' m') (N : News h₀ L h' ((I, oI) :: z :: base)) (off : ∀ p ∈ base, p.1 ≠ I) (hf : (hs.drop i).find? (hdMatch nm) = some h0) (hd : hs.drop i = c :: hs.drop (i + 1)) (hc : (PySem.Txt.lower c.k == PySem.Txt.lower nm) = false)
    (hr : ∀ z, z ≠ Str.ofString "k" → z ≠ Str.ofString "v" → m' z = m₀ z) :
    TEnd h₀ L (TKN (gtLed base) gtNames (gtFacts hs nm h0) (Str.ofString "k") [Str.ofString "v"] m₀ (i + 1)) (I, oI) s₁ { s₁ with heap := h', toks := tk } := by
  refine tkn_end () F N (fun p hp => .tail _ (.tail _ hp)) (.head _) off ?_ nil_all ?_
  · rw [hd, List.find?_cons] at hf
    unfold hdMatch at hf
    rw [hc] at hf
    exact hf
  · intro z z0 _ z1
    exact hr z z0 (by rintro rfl; exact absurd z1 (by decide))
theorem gt_hit {hs : List Hd} {nm : Str} {h0 c : Hd} {i : Nat} (hf : (hs.drop i).find? (hdMatch nm) = some h0) (hd : hs.drop i = c :: hs.drop (i + 1)) (hc : (PySem.Txt.lower c.k == PySem.Txt.lower nm) = true) : h0 = c := by
  rw [hd, List.find?_cons] at hf
  unfold hdMatch at hf
  rw [hc] at hf
  exact (Option.some.inj hf).symm
end
local macro_rules | `(tactic| walk_at "exec For Tuple Attribute cons nil") => `(tactic| (k_dflt (refine for_enter ?_)))
local macro_rules | `(tactic| walk_at "TPost") => `(tactic| (dsimp only [TPost]))
local macro_rules | `(tactic| walk_at "call ref") => `(tactic| (k_here; (show wpAny _ _ (call (Value.ref 175) [Value.ref _, Value.str _ _] _) _ _ _); k_dflt (
  (refine' Spec.use ?B1 ?F1 ?X1 ?N1 ?T1 (conv_name _ _ _ ?G1 _ _) ?D1 ?U1 ?_; (case G1 => with_unfolding_all assumption); (case B1 => k_asm); (case F1 => k_asm); (case X1 => k_asm); (case N1 => k_asm); (case T1 => k_asm); (case D1 => ktr_room); (case U1 => ktr_units); k_whole)); intro v9 n9 h9 tk9 hP9 F9 N9; obtain ⟨e8, e9⟩ := hP9; subst e8; subst e9; (try dsimp only); (try k_fold)))
theorem get_spec (w : World) (x d l : Addr) (t : Tok) (nm : Str) (t1 : Tok) (hs : List Hd) (e : Nat) (rest : List (Addr × Obj)) (h1 : NameOk (PySem.Txt.lower nm)) (hlen : nm.length ≤ 100) (hok : ∀ h ∈ hs, hdOk h) (h0 : Hd) (hf : hs.find? (hdMatch nm) = some h0) :
    Spec 2 w (.ref 223) [.ref x, .str nm t1] [] ((x, instObj 276 d) :: (d, dictOf [dE w "_headers" t (.ref l)] 1) :: (l, listOf (hs.map Hd.ref).toArray e) :: (hs.map Hd.ent ++ rest)) (fun v news' => (∃ u, v = .str h0.v u) ∧ news' = (x, instObj 276 d) :: (d, dictOf [dE w "_headers" t (.ref l)] 1) :: (l, listOf (hs.map Hd.ref).toArray e) :: (hs.map Hd.ent ++ rest)) := by
  have zz : (fun (_ : Params → Frag) (_ : OpenLaw) => True) K PySem.Challenge.rw_sn0070_01 := by k_fill; trivial
  clear zz
  unfold Spec
  intros
  rename_i hret
  refine wpAny_call ?_
  k_dflt k_enter
  k_steps
  rename News _ _ _ _ => hN
  rename Fr _ _ _ _ => hF
  refine' gt_loop rfl hF hN hf ?turn
  case turn =>
    intro i c I oI u h tk hc hm hfi hd off F N
    clear hF hN
    have hck : c.k.length ≤ 100 := hok c hm
    k_steps
    · have e9 := gt_hit hfi hd (by assumption)
      rename News _ _ _ _ => N9
      exact hret _ _ _ _ ⟨⟨_, by rw [e9]⟩, rfl⟩ (by k_asm) (fun p hp => N9 p (.tail _ (.tail _ hp)))
    · rename News _ _ _ _ => N9
      rename Fr _ _ _ _ => F9
      refine gt_end F9 N9 off hfi hd (by assumption) ?_
      intro z z0 z1
      simp only [if_neg z1, if_neg z0, kstB, has_one z1, Bool.false_eq_true, if_false]
end Mine
end
section
namespace Mine
theorem Spec.frame {k : Nat} {w : World} {f : Value} {args : List Value} {kws : List (Str × Value)} {news news2 : List (Addr × Obj)} {Post Post2 : Value → List (Addr × Obj) → Prop} (S : Spec k w f args kws news Post) (hsub : ∀ p ∈ news, p ∈ news2)
    (hP : ∀ v n', Post v n' → ∃ n2, Post2 v n2 ∧ ∀ p ∈ n2, p ∈ n') : Spec k w f args kws news2 Post2 := by
  intro dp un gd cn nm ig ic mo a ccd cl outer A₀ base h₀ L m s Q E mean mg mb B F X N T hd hu hret
  refine S _ _ _ _ _ _ _ _ _ _ _ _ _ _ _ _ _ _ _ _ _ _ _ B F X (fun p hp => N p (hsub p hp)) T hd hu fun v n' h' tk' hp F' N' => ?_
  obtain ⟨n2, h2, hs⟩ := hP v n' hp
  exact hret v n2 h' tk' h2 F' fun p hq => N' p (hs p hq)
theorem add_specU (w : World) (x d l : Addr) (t : Tok) (nm vl : Str) (t1 t2 : Tok) (vs : List Value) (e : Nat) (news : List (Addr × Obj)) (g : Obj → List (Addr × Obj)) (h1 : NameOk nm) (h2 : ValueOk vl) (hv : vs.length ≤ 20)
    (hx : (x, instObj 276 d) ∈ news) (hd : (d, dictOf [dE w "_headers" t (.ref l)] 1) ∈ news) (U : UpdF l (listOf vs.toArray e) news g) :
    Spec 2 w (.ref 273) [.ref x, .str nm t1, .str vl t2] [] news (fun v news' => ∃ T u1 u2, v = .none ∧ news' = (T, { cls := .type "tuple", data := .seq #[.str nm u1, .str vl u2] }) :: g (listOf (vs ++ [Value.ref T]).toArray (e + 1)) ∧ ∀ p ∈ news, p.1 < T) := by
  obtain ⟨pre, post, rfl, hg, x1, x2⟩ := U.split
  have ne : ∀ {y : Addr} {o : Obj}, (y, o) ∈ pre ++ (l, listOf vs.toArray e) :: post → o.cls ≠ .type "list" → @Ne Nat y l := fun {y o} hy ho => by
    rcases List.mem_append.mp hy with h | h
    · exact x1 _ h
    · rcases List.mem_cons.mp h with h | h
      · cases h; exact absurd rfl ho
      · exact x2 _ h
  refine Spec.frame (add_spec w x d l t nm vl t1 t2 vs e (pre ++ post) h1 h2 hv (fun p hp => (List.mem_append.mp hp).elim (x1 p) (x2 p)) (ne hx (by intro h; cases h)) (ne hd (fun h => absurd (Value.type.inj h) (by decide)))) ?_ ?_
  · intro p hp
    rcases List.mem_cons.mp hp with rfl | hp
    · exact hx
    rcases List.mem_cons.mp hp with rfl | hp
    · exact hd
    rcases List.mem_cons.mp hp with rfl | hp
    · exact List.mem_append_right _ (.head _)
    · exact (List.mem_append.mp hp).elim (fun q => List.mem_append_left _ q) (fun q => List.mem_append_right _ (.tail _ q))
  · rintro v n' ⟨T, u1, u2, rfl, rfl, q1, q2, q3, q4⟩
    refine ⟨_, ⟨T, u1, u2, rfl, rfl, fun p hp => ?_⟩, ?_⟩
    · rcases List.mem_append.mp hp with h | h
      · exact ktn_ltOf q4 p (List.mem_append_left _ h)
      · rcases List.mem_cons.mp h with h | h
        · rw [h]; exact q3
        · exact ktn_ltOf q4 p (List.mem_append_right _ h)
    rw [hg]
    intro p hp
    rcases List.mem_cons.mp hp with rfl | hp
    · exact .head _
    rcases List.mem_append.mp hp with hp | hp
    · exact .tail _ (.tail _ (.tail _ (.tail _ (List.mem_append_left _ hp))))
    rcases List.mem_cons.mp hp with rfl | hp
    · exact .tail _ (.tail _ (.tail _ (.head _)))
    · exact .tail _ (.tail _ (.tail _ (.tail _ (List.mem_append_right _ hp))))
theorem get_specU (w : World) (x d l : Addr) (t : Tok) (nm : Str) (t1 : Tok) (hs : List Hd) (e : Nat) (news : List (Addr × Obj)) (h1 : NameOk (PySem.Txt.lower nm)) (hlen : nm.length ≤ 100) (hok : ∀ h ∈ hs, hdOk h) (h0 : Hd) (hf : hs.find? (hdMatch nm) = some h0)
    (hx : (x, instObj 276 d) ∈ news) (hd : (d, dictOf [dE w "_headers" t (.ref l)] 1) ∈ news) (hl : (l, listOf (hs.map Hd.ref).toArray e) ∈ news) (hh : ∀ h ∈ hs, h.ent ∈ news) :
    Spec 2 w (.ref 223) [.ref x, .str nm t1] [] news (fun v news' => (∃ u, v = .str h0.v u) ∧ news' = news) := by
  refine Spec.frame (get_spec w x d l t nm t1 hs e news h1 hlen hok h0 hf) ?_ ?_
  · intro p hp
    rcases List.mem_cons.mp hp with rfl | hp
    · exact hx
    rcases List.mem_cons.mp hp with rfl | hp
    · exact hd
    rcases List.mem_cons.mp hp with rfl | hp
    · exact hl
    rcases List.mem_append.mp hp with hp | hp
    · obtain ⟨h, hm, rfl⟩ := List.mem_map.mp hp
      exact hh h hm
    · exact hp
  · rintro v n' ⟨hv, rfl⟩
    exact ⟨news, ⟨hv, rfl⟩, fun p hp => .tail _ (.tail _ (.tail _ (List.mem_append_right _ hp)))⟩
end Mine
end
section
namespace Mine
theorem News.ne_cls {h₀ h : Heap} {L a b : Addr} {o o' : Obj} {news : List (Addr × Obj)} (N : News h₀ L h news) (ha : (a, o) ∈ news) (hb : (b, o') ∈ news) (hne : o.cls ≠ o'.cls) : @Ne Nat a b := by
  rintro rfl
  have e1 := (N _ ha).1
  have e2 := (N _ hb).1
  dsimp only at e1 e2
  rw [e1] at e2
  exact hne (congrArg Obj.cls (Option.some.inj e2))
structure FlSt where
  hs : List Hd
  e : Nat
noncomputable def Hd.kv (h : Hd) : Str × Str := (h.k, h.v)
noncomputable def flLed (y z : Addr × Obj) (S l : Addr) (so : Obj) (ts : List Tr) (rest : List (Addr × Obj)) (_ : Nat) (c : FlSt) : List (Addr × Obj) :=
  y :: z :: (l, listOf (c.hs.map Hd.ref).toArray c.e) :: (S, so) :: (c.hs.map Hd.ent ++ (ts.map Tr.ent ++ rest))
noncomputable def flNames (_ : Nat) (_ : FlSt) : List (Str × Value) := []
noncomputable def flFacts (ts : List Tr) (pre : List (Str × Str)) (kv : Tr → Str × Str) (i : Nat) (c : FlSt) : Prop := c.hs.map Hd.kv = pre ++ (ts.take i).map kv
section
variable {prog : Program} {w : World} {A : Around} {E : Value → Shared → Prop} {s : Shared} {env : Env} {h₀ : Heap} {target : Expr} {body orelse : List Stmt} {Q : Flow → Shared → Prop}
theorem fl_loop {S l : Addr} {ts : List Tr} {k : Nat} {pre : List (Str × Str)} {m₀ : Str → Option Value} {y z : Addr × Obj} {rest : List (Addr × Obj)} (kv : Tr → Str × Str) (st : List Str) (hs : List Hd) (e : Nat)
    (hh : A.handled = none) (F : Fr h₀ env.locals s.heap m₀) (N : News h₀ env.locals s.heap (y :: z :: (l, listOf (hs.map Hd.ref).toArray e) :: (S, listOf (ts.map Tr.ref).toArray k) :: (hs.map Hd.ent ++ (ts.map Tr.ent ++ rest)))) (hp : hs.map Hd.kv = pre) (hl : ∀ p ∈ rest, p.1 ≠ l)
    (turn : ∀ (i : Nat) (t : Tr) (c : FlSt) (I : Addr) (oI : Obj) (u : Str → Option Value) h tk, ts[i]? = some t → t ∈ ts → flFacts ts pre kv i c → (∀ p ∈ c.hs.map Hd.ent ++ (ts.map Tr.ent ++ rest), p.1 ≠ l) → @Ne Nat t.a l → @Ne Nat I l → @Ne Nat I t.a → (∀ p ∈ flLed y z S l (listOf (ts.map Tr.ref).toArray k) ts rest i c, p.1 ≠ I) →
      Fr h₀ env.locals h (fun y => if y = Str.ofString "bit" then u y else kstB (fun z => if st.contains z then u z else m₀ z) [] y) → News h₀ env.locals h ((I, oI) :: (t.a, { cls := .type "tuple", data := .seq #[.int t.b t.tb, .int t.p t.tp, .int t.s t.ts] }) :: flLed y z S l (listOf (ts.map Tr.ref).toArray k) ts rest i c) →
      ∀ QT : Flow → Shared → Prop, (∀ s₂, TEnd h₀ env.locals (TKN (flLed y z S l (listOf (ts.map Tr.ref).toArray k) ts rest) flNames (flFacts ts pre kv) (Str.ofString "bit") st m₀ (i + 1)) (I, oI) { s with heap := h, toks := tk } s₂ → QT .next s₂) →
      wpAny (model prog w) A (assign target env (.ref t.a)) (fun _ s₂ => wpAny (model prog w) A (execs body env) QT E s₂) E { s with heap := h, toks := tk })
    (done : ∀ (c : FlSt) (u : Str → Option Value) h tk, c.hs.map Hd.kv = pre ++ ts.map kv → Fr h₀ env.locals h (fun y => if y = Str.ofString "bit" then u y else kstB (fun z => if st.contains z then u z else m₀ z) [] y) → News h₀ env.locals h (y :: z :: (l, listOf (c.hs.map Hd.ref).toArray c.e) :: (S, listOf (ts.map Tr.ref).toArray k) :: (c.hs.map Hd.ent ++ (ts.map Tr.ent ++ rest))) →
      wpAny (model prog w) A (execs orelse env) Q E { s with heap := h, toks := tk })
    (hE : PassesOwn (model prog w) A env E := by passes_own) :
    wpAny (model prog w) A (pyIter (.ref S)) (fun it s₂ => MyLoop prog w A target body orelse env Q E it s₂) E s := by
  refine list_loopK (its := (ts.map Tr.ref).toArray) (k := k) (Str.ofString "bit") (flLed y z S l (listOf (ts.map Tr.ref).toArray k) ts rest) flNames (flFacts ts pre kv) st ⟨hs, e⟩ hh (fun i c _ => .tail _ (.tail _ (.tail _ (.head _)))) F N (by unfold flFacts; rw [List.take_zero, List.map_nil, List.append_nil]; exact hp) nil_all ?_ ?_ hE
  · intro c i v I oI u h tk hv hf off F' N'
    have hv' : (ts.map Tr.ref)[i]? = some v := by simpa using hv
    rw [List.getElem?_map] at hv'
    obtain ⟨t, ht, rfl⟩ := Option.map_eq_some_iff.mp hv'
    have hm : t ∈ ts := List.mem_of_getElem? ht
    have hme : t.ent ∈ c.hs.map Hd.ent ++ (ts.map Tr.ent ++ rest) := List.mem_append_right _ (List.mem_append_left _ (List.mem_map_of_mem hm))
    have hlm : (l, listOf (c.hs.map Hd.ref).toArray c.e) ∈ (I, oI) :: flLed y z S l (listOf (ts.map Tr.ref).toArray k) ts rest i c := .tail _ (.tail _ (.tail _ (.head _)))
    have hq : ∀ p ∈ c.hs.map Hd.ent ++ (ts.map Tr.ent ++ rest), p.1 ≠ l := by
      intro p hp
      have hp' : p ∈ (I, oI) :: flLed y z S l (listOf (ts.map Tr.ref).toArray k) ts rest i c := .tail _ (.tail _ (.tail _ (.tail _ (.tail _ hp))))
      rcases List.mem_append.mp hp with h | h
      · obtain ⟨q, -, rfl⟩ := List.mem_map.mp h
        exact News.ne_cls N' hp' hlm (fun h => absurd (Value.type.inj h) (by decide))
      · rcases List.mem_append.mp h with h | h
        · obtain ⟨q, -, rfl⟩ := List.mem_map.mp h
          exact News.ne_cls N' hp' hlm (fun h => absurd (Value.type.inj h) (by decide))
        · exact hl p h
    refine turn i t c I oI u h tk ht hm hf hq (hq _ hme) (off _ (.tail _ (.tail _ (.head _)))).symm (off _ (.tail _ (.tail _ (.tail _ (.tail _ hme))))).symm off F' ?_ _ (fun _ h => h)
    refine List.forall_mem_cons.mpr ⟨N' _ (.head _), List.forall_mem_cons.mpr ⟨?_, fun p hp => N' p (.tail _ hp)⟩⟩
    exact N' t.ent (.tail _ (.tail _ (.tail _ (.tail _ (.tail _ hme)))))
  · intro c u h tk hf' F' N'
    refine done c u h tk ?_ F' N'
    unfold flFacts at hf'
    rw [List.size_toArray, List.length_map, List.take_length] at hf'
    exact hf'
end
end Mine
end
section
namespace Mine
theorem fl_start {h₀ h : Heap} {L T l : Addr} {k v : Str} {u u' : Tok} {o : Obj} {y z so : Addr × Obj} {rest : List (Addr × Obj)} (N : News h₀ L h ((T, { cls := .type "tuple", data := .seq #[.str k u, .str v u'] }) :: (l, o) :: y :: z :: so :: rest)) :
    News h₀ L h (y :: z :: (l, o) :: so :: ([(⟨T, k, v, u, u'⟩ : Hd)].map Hd.ent ++ rest)) :=
  List.forall_mem_cons.mpr ⟨N _ (.tail _ (.tail _ (.head _))), List.forall_mem_cons.mpr ⟨N _ (.tail _ (.tail _ (.tail _ (.head _)))), List.forall_mem_cons.mpr ⟨N _ (.tail _ (.head _)), List.forall_mem_cons.mpr ⟨N _ (.tail _ (.tail _ (.tail _ (.tail _ (.head _))))),
    List.forall_mem_cons.mpr ⟨N _ (.head _), fun p hp => N p (.tail _ (.tail _ (.tail _ (.tail _ (.tail _ hp)))))⟩⟩⟩⟩⟩
noncomputable def nameChk (x : Str) : Bool := x.cps.toList.all (fun c => decide (32 ≤ c) && c != 127) && decide (x.cps.size ≤ 20)
theorem nameChk_ok {x : Str} (h : nameChk x = true) : NameOk x ∧ x.length ≤ 20 := by
  unfold nameChk at h
  simp only [Bool.and_eq_true, List.all_eq_true, decide_eq_true_eq, bne_iff_ne, ne_eq] at h
  exact ⟨⟨fun c hc => okChar_name (h.1 c hc).1 (h.1 c hc).2, Nat.le_trans h.2 (by decide)⟩, h.2⟩
theorem name_facts {b : Int} (h0 : 0 ≤ b) (h1 : b < 13) : (NameOk (nameS b) ∧ (nameS b).length ≤ 20) ∧ (NameOk (PySem.Txt.lower (nameS b)) ∧ (PySem.Txt.lower (nameS b)).length ≤ 20) ∧ (NameOk (PySem.Txt.upper (nameS b)) ∧ (PySem.Txt.upper (nameS b)).length ≤ 20) := by
  have key : ∀ i < 13, nameChk (namesL.getD i Str.empty) = true ∧ nameChk (PySem.Txt.lower (namesL.getD i Str.empty)) = true ∧ nameChk (PySem.Txt.upper (namesL.getD i Str.empty)) = true := by decide +kernel
  obtain ⟨k1, k2, k3⟩ := key b.toNat (by omega)
  exact ⟨nameChk_ok k1, nameChk_ok k2, nameChk_ok k3⟩
theorem new_ne {l : Addr} {news : List (Addr × Obj)} (h : AllLt l news) : ∀ p ∈ news, p.1 ≠ l := fun p hp => Nat.ne_of_lt (ktn_ltOf h p hp)
noncomputable def wordS (t : Tr) : Str := if t.s.fmod 2 = 0 then PySem.Txt.lower (nameS t.b) else PySem.Txt.upper (nameS t.b)
noncomputable def valS (t : Tr) : Str := PySem.Txt.mul (Str.ofString " ") (t.s.fmod (t.p + 1)) ++ unseenS t.s ++ PySem.Txt.mul (Str.ofString " ") (t.p - t.s.fmod (t.p + 1)) ++ Str.ofString "\t"
theorem valS_list (t : Tr) : (valS t).cps.toList = List.replicate (t.s.fmod (t.p + 1)).toNat 32 ++ [unseenCode t.s] ++ List.replicate (t.p - t.s.fmod (t.p + 1)).toNat 32 ++ [9] := by
  have e1 : Str.ofString " " = ⟨#[32]⟩ := by decide +kernel
  have e2 : Str.ofString "\t" = ⟨#[9]⟩ := by decide +kernel
  unfold valS
  rw [Str.cps_append, Str.cps_append, Str.cps_append, Array.toList_append, Array.toList_append, Array.toList_append, e1, e2, mul_one_list, mul_one_list]
  rfl
theorem unseen_in {n : Int} (h : 0 ≤ n) : unseenCode n ∈ [173, 847, 6150, 6155, 6156, 6157, 8203, 8204, 8205, 8288, 65279] ++ List.range' 65024 16 := by
  have h0 : 0 ≤ n.fmod 27 := Int.fmod_nonneg_of_pos _ (by decide)
  have h1 : n.fmod 27 < 27 := Int.fmod_lt_of_pos _ (by decide)
  unfold unseenCode
  generalize n.fmod 27 = k at *
  obtain ⟨i, rfl⟩ : ∃ i : Nat, k = i := ⟨k.toNat, by omega⟩
  have h2 : i < 27 := by omega
  have : ∀ i < 27, (if ((i : Nat) : Int) < 16 then (65024 + ((i : Nat) : Int)).toNat else ([173, 847, 6150, 6155, 6156, 6157, 8203, 8204, 8205, 8288, 65279].getD (((i : Nat) : Int) - 16).toNat (0 : Int)).toNat) ∈ [173, 847, 6150, 6155, 6156, 6157, 8203, 8204, 8205, 8288, 65279] ++ List.range' 65024 16 := by decide +kernel
  exact this i h2
theorem unseen_ok {n : Int} (h : 0 ≤ n) : okChar valueCode (unseenCode n) := by
  have := unseen_in h
  exact okChar_value _ (by
    rw [List.mem_append] at this ⊢
    exact this.imp (fun q => List.mem_cons_of_mem _ (List.mem_cons_of_mem _ q)) id)
theorem unseen_value {n : Int} (h : 0 ≤ n) : ValueOk (unseenS n) := ⟨fun c hc => by
  have : c ∈ [unseenCode n] := hc
  rw [List.mem_singleton.mp this]; exact unseen_ok h, by show 1 ≤ 100; decide⟩
theorem ok_sp : okChar valueCode 32 := okChar_value _ (by decide)
theorem ok_tab : okChar valueCode 9 := okChar_value _ (by decide)
theorem val_ok {t : Tr} (h : trOk t) : ValueOk (valS t) := by
  obtain ⟨b1, b2, b3, b4, b5, b6⟩ := h
  have c1 : 0 ≤ t.s.fmod (t.p + 1) := Int.fmod_nonneg_of_pos _ (by omega)
  have c2 : t.s.fmod (t.p + 1) < t.p + 1 := Int.fmod_lt_of_pos _ (by omega)
  refine ⟨fun c hc => ?_, ?_⟩
  · rw [valS_list] at hc
    rcases List.mem_append.mp hc with hc | hc
    · rcases List.mem_append.mp hc with hc | hc
      · rcases List.mem_append.mp hc with hc | hc
        · rw [List.eq_of_mem_replicate hc]; exact ok_sp
        · rw [List.mem_singleton.mp hc]; exact unseen_ok b5
      · rw [List.eq_of_mem_replicate hc]; exact ok_sp
    · rw [List.mem_singleton.mp hc]; exact ok_tab
  · have := congrArg List.length (valS_list t)
    simp only [List.length_append, List.length_replicate, List.length_singleton, Array.length_toList] at this
    omega
theorem ok_0X0 : NameOk (Str.ofString "0X0") := (nameChk_ok (by decide +kernel)).1
theorem ok_0x0 : NameOk (Str.ofString "0x0") := (nameChk_ok (by decide +kernel)).1
theorem ok_sptab : ValueOk (Str.ofString " \t") := by
  have e : Str.ofString " \t" = ⟨#[32, 9]⟩ := by decide +kernel
  rw [e]
  refine ⟨fun c hc => ?_, by show 2 ≤ 100; decide⟩
  have : c ∈ [32, 9] := hc
  simp only [List.mem_cons, List.not_mem_nil, or_false] at this
  rcases this with rfl | rfl
  · exact ok_sp
  · exact ok_tab
theorem ok_tabS : ValueOk (Str.ofString "\t") := by
  have e : Str.ofString "\t" = ⟨#[9]⟩ := by decide +kernel
  rw [e]
  refine ⟨fun c hc => ?_, by show 1 ≤ 100; decide⟩
  have : c ∈ [9] := hc
  rw [List.mem_singleton.mp this]; exact ok_tab
theorem fl_len {ts : List Tr} {pre : List (Str × Str)} {kv : Tr → Str × Str} {i : Nat} {c : FlSt} (h : flFacts ts pre kv i c) : c.hs.length ≤ pre.length + ts.length := by
  have := congrArg List.length h
  simp only [List.length_append, List.length_map, List.length_take] at this
  omega
theorem fl_end {h₀ : Heap} {L S l I T : Addr} {so oI : Obj} {ts : List Tr} {pre : List (Str × Str)} {kv : Tr → Str × Str} {i : Nat} {t : Tr} {c : FlSt} {m₀ m' : Str → Option Value} {y z ti : Addr × Obj} {rest : List (Addr × Obj)} {st : List Str} {s₁ : Shared} {h' : Heap} {tk : Nat} {k v : Str} {u u' : Tok}
    (F : Fr h₀ L h' m') (N : News h₀ L h' ((T, { cls := .type "tuple", data := .seq #[.str k u, .str v u'] }) :: (I, oI) :: ti :: y :: z :: (l, listOf (c.hs.map Hd.ref ++ [Value.ref T]).toArray (c.e + 1)) :: (S, so) :: (c.hs.map Hd.ent ++ (ts.map Tr.ent ++ rest))))
    (hf : flFacts ts pre kv i c) (ht : ts[i]? = some t) (hkv : kv t = (k, v)) (off : ∀ p ∈ flLed y z S l so ts rest i c, p.1 ≠ I) (hT : @Ne Nat T I)
    (hr : ∀ z, z ≠ Str.ofString "bit" → st.contains z = false → m' z = m₀ z) :
    TEnd h₀ L (TKN (flLed y z S l so ts rest) flNames (flFacts ts pre kv) (Str.ofString "bit") st m₀ (i + 1)) (I, oI) s₁ { s₁ with heap := h', toks := tk } := by
  unfold flLed at off
  refine tkn_end (⟨c.hs ++ [⟨T, k, v, u, u'⟩], c.e + 1⟩ : FlSt) F N ?_ (.tail _ (.head _)) ?_ ?_ nil_all ?_
  · intro p hp
    unfold flLed at hp
    simp only [List.map_append, List.map_cons, List.map_nil, List.append_assoc, List.mem_cons, List.mem_append, List.not_mem_nil, or_false] at hp ⊢
    rcases hp with h | h | h | h | h | h | h
    · exact .inr (.inr (.inr (.inl h)))
    · exact .inr (.inr (.inr (.inr (.inl h))))
    · exact .inr (.inr (.inr (.inr (.inr (.inl h)))))
    · exact .inr (.inr (.inr (.inr (.inr (.inr (.inl h))))))
    · exact .inr (.inr (.inr (.inr (.inr (.inr (.inr (.inl h)))))))
    · exact .inl h
    · exact .inr (.inr (.inr (.inr (.inr (.inr (.inr (.inr h)))))))
  · intro p hp
    unfold flLed at hp
    simp only [List.map_append, List.map_cons, List.map_nil, List.append_assoc, List.mem_cons, List.mem_append, List.not_mem_nil, or_false] at hp
    rcases hp with h | h | h | h | h | h | h
    · rw [h]; exact off _ (.head _)
    · rw [h]; exact off _ (.tail _ (.head _))
    · rw [h]; exact (off _ (.tail _ (.tail _ (.head _))) : (l, _).1 ≠ I)
    · rw [h]; exact (off _ (.tail _ (.tail _ (.tail _ (.head _)))) : (S, so).1 ≠ I)
    · exact off _ (.tail _ (.tail _ (.tail _ (.tail _ (List.mem_append_left _ h)))))
    · rw [h]; exact hT
    · exact off _ (.tail _ (.tail _ (.tail _ (.tail _ (List.mem_append_right _ (List.mem_append.mpr h))))))
  · show (c.hs ++ [_]).map Hd.kv = _
    have : ts.take (i + 1) = ts.take i ++ [t] := by rw [List.take_add_one, ht]; rfl
    rw [this, List.map_append, List.map_append, hf, List.append_assoc]
    show _ = pre ++ ((ts.take i).map kv ++ [kv t])
    rw [hkv]; rfl
  · intro z z0 _ z1
    exact hr z z0 z1
end Mine
end
section
namespace Mine
noncomputable def Stop (p : Prop) : Prop := p
theorem stop {p : Prop} (h : Stop p) : p := h
local macro_rules | `(tactic| walk_at "exec For Tuple Name cons nil") => `(tactic| (k_dflt (refine for_enter ?_)))
local macro_rules | `(tactic| walk_at "call builtin:str.upper") => `(tactic| (k_here; k_dflt (refine' SCL.upper ?kA ?_; (case kA => omega); k_whole); intro _))
local macro_rules | `(tactic| k_all) => `(tactic| assumption)
local macro_rules | `(tactic| walk_at "call ref") => `(tactic| (k_here; (k_dflt (show wpAny _ _ (call (Value.ref 276) [] _) _ _ _)); k_dflt (
  (refine' Spec.use ?B1 ?F1 ?X1 ?N1 ?T1 (new_spec _ _) ?D1 ?U1 ?_; (case B1 => k_asm); (case F1 => k_asm); (case X1 => k_asm); (case N1 => k_asm); (case T1 => k_asm); (case D1 => ktr_room); (case U1 => ktr_units); k_whole)); intro v9 n9 h9 tk9 hP9 F9 N9; obtain ⟨x9, d9, l9, t9, e8, e9, q9⟩ := hP9; subst e8; subst e9; (have q10 := new_ne q9.2.2); (have q11 := Nat.ne_of_lt q9.1); (have q12 := Nat.ne_of_lt q9.2.1); clear q9; (try dsimp only); (try k_fold)))
local macro_rules | `(tactic| walk_at "call ref") => `(tactic| (k_here; (show wpAny _ _ (call (Value.ref 287) [Value.int _ _] _) _ _ _); k_dflt (
  (refine' Spec.use ?B1 ?F1 ?X1 ?N1 ?T1 (unseen_spec _ _ _ ?G1 _) ?D1 ?U1 ?_; (case G1 => assumption); (case B1 => k_asm); (case F1 => k_asm); (case X1 => k_asm); (case N1 => k_asm); (case T1 => k_asm); (case D1 => ktr_room); (case U1 => ktr_units); k_whole)); intro v9 n9 h9 tk9 hP9 F9 N9; obtain ⟨t9, e8, e9⟩ := hP9; subst e8; subst e9; (try dsimp only); (try k_fold)))
local macro_rules | `(tactic| walk_at "call ref") => `(tactic| (k_here; (show wpAny _ _ (call (Value.ref 313) [Value.int _ _] _) _ _ _); k_dflt (
  (refine' Spec.use ?B1 ?F1 ?X1 ?N1 ?T1 (name_spec _ _ _ ?G1 ?G2 _) ?D1 ?U1 ?_; (case G1 => assumption); (case G2 => assumption); (case B1 => k_asm); (case F1 => k_asm); (case X1 => k_asm); (case N1 => k_asm); (case T1 => k_asm); (case D1 => ktr_room); (case U1 => ktr_units); k_whole)); intro v9 n9 h9 tk9 hP9 F9 N9; obtain ⟨t9, e8, e9⟩ := hP9; subst e8; subst e9; (try dsimp only); (try k_fold)))
local macro_rules | `(tactic| walk_at "call ref") => `(tactic| (k_here; (show wpAny _ _ (call (Value.ref 273) [Value.ref _, Value.str _ _, Value.str _ _] _) _ _ _); first | (k_dflt (
  (refine' Spec.use ?B1 ?F1 ?X1 ?N1 ?T1 (add_specU _ _ _ _ _ _ _ _ _ _ _ _ _ ?G1 ?G2 ?G3 ?G4 ?G5 ?G6) ?D1 ?U1 ?_; (case B1 => k_asm); (case F1 => k_asm); (case X1 => k_asm); (case N1 => k_asm); (case T1 => k_asm); (case G1 => assumption); (case G2 => assumption); (case G4 => k_mem); (case G5 => k_mem); (case G6 => k_updF); (case G3 => (first | assumption | exact Nat.le_of_ble_eq_true rfl)); (case D1 => ktr_room); (case U1 => ktr_units); k_whole)); intro v9 n9 h9 tk9 hP9 F9 N9; obtain ⟨T9, u8, u9, e8, e9, q8⟩ := hP9; subst e8; subst e9; (try dsimp only at N9); (try dsimp only); (try k_fold)) | refine stop ?_))
noncomputable def filePre (n : Int) : List (Str × Str) := [(Str.ofString "0X0", unseenS (n.fdiv 3))]
noncomputable def fileKv (ts : List Tr) (n : Int) : List (Str × Str) := ((filePre n ++ ts.map fun t => (wordS t, valS t)) ++ ts.map fun t => (nameS t.b, Str.ofString " \t")) ++ [(Str.ofString "0x0", Str.ofString "\t")]
theorem kv_lo {t : Tr} (h : t.s.fmod 2 = 0) : (wordS t, valS t) = (PySem.Txt.lower (nameS t.b), valS t) := by unfold wordS; rw [if_pos h]
theorem kv_up {t : Tr} (h : t.s.fmod 2 ≠ 0) : (wordS t, valS t) = (PySem.Txt.upper (nameS t.b), valS t) := by unfold wordS; rw [if_neg h]
noncomputable def fileLed (w : World) (x d l : Addr) (t : Tok) (hs : List Hd) (e : Nat) : List (Addr × Obj) := (x, instObj 276 d) :: (d, dictOf [dE w "_headers" t (.ref l)] 1) :: (l, listOf (hs.map Hd.ref).toArray e) :: hs.map Hd.ent
theorem fl_ne {h₀ h : Heap} {L S l : Addr} {so : Obj} {hs : List Hd} {ts : List Tr} {vs : Array Value} {e : Nat} {y z : Addr × Obj} {rest : List (Addr × Obj)} (N : News h₀ L h (y :: z :: (l, listOf vs e) :: (S, so) :: (hs.map Hd.ent ++ (ts.map Tr.ent ++ rest)))) (hl : ∀ p ∈ rest, p.1 ≠ l) :
    ∀ p ∈ hs.map Hd.ent ++ (ts.map Tr.ent ++ rest), p.1 ≠ l := by
  intro p hp
  have hp' := N p (.tail _ (.tail _ (.tail _ (.tail _ hp))))
  rcases List.mem_append.mp hp with h | h
  · obtain ⟨q, -, rfl⟩ := List.mem_map.mp h
    exact News.ne_cls N (.tail _ (.tail _ (.tail _ (.tail _ hp)))) (.tail _ (.tail _ (.head _))) (fun h => absurd (Value.type.inj h) (by decide))
  · rcases List.mem_append.mp h with h | h
    · obtain ⟨q, -, rfl⟩ := List.mem_map.mp h
      exact News.ne_cls N (.tail _ (.tail _ (.tail _ (.tail _ hp)))) (.tail _ (.tail _ (.head _))) (fun h => absurd (Value.type.inj h) (by decide))
    · exact hl p h
theorem fl_fin {h₀ h : Heap} {L S l x d T : Addr} {so : Obj} {w : World} {t : Tok} {hs : List Hd} {k v : Str} {u u' : Tok} {e : Nat} {rest : List (Addr × Obj)}
    (N : News h₀ L h ((T, { cls := .type "tuple", data := .seq #[.str k u, .str v u'] }) :: (x, instObj 276 d) :: (d, dictOf [dE w "_headers" t (.ref l)] 1) :: (l, listOf (hs.map Hd.ref ++ [Value.ref T]).toArray (e + 1)) :: (S, so) :: (hs.map Hd.ent ++ rest))) :
    News h₀ L h (fileLed w x d l t (hs ++ [⟨T, k, v, u, u'⟩]) (e + 1) ++ (S, so) :: rest) := by
  intro p hp
  unfold fileLed at hp
  simp only [List.map_append, List.map_cons, List.map_nil, List.append_assoc, List.cons_append, List.nil_append, List.mem_cons, List.mem_append] at hp
  rcases hp with h | h | h | h | h | h | h
  · exact N _ (h ▸ .tail _ (.head _))
  · exact N _ (h ▸ .tail _ (.tail _ (.head _)))
  · exact N _ (h ▸ .tail _ (.tail _ (.tail _ (.head _))))
  · exact N _ (.tail _ (.tail _ (.tail _ (.tail _ (.tail _ (List.mem_append_left _ h))))))
  · exact N _ (h ▸ .head _)
  · exact N _ (h ▸ .tail _ (.tail _ (.tail _ (.tail _ (.head _)))))
  · exact N _ (.tail _ (.tail _ (.tail _ (.tail _ (.tail _ (List.mem_append_right _ h))))))
theorem file_spec (w : World) (S : Addr) (ts : List Tr) (k : Nat) (n : Int) (tn : Tok) (h0 : 0 ≤ n) (hts : ∀ t ∈ ts, trOk t) (hlen : ts.length = 4) (rest : List (Addr × Obj)) :
    Spec 4 w (.ref 334) [.ref S, .int n tn] [] ((S, listOf (ts.map Tr.ref).toArray k) :: (ts.map Tr.ent ++ rest)) (fun v news' => ∃ x d l t hs e, v = .ref x ∧ hs.map Hd.kv = fileKv ts n ∧ news' = fileLed w x d l t hs e ++ (S, listOf (ts.map Tr.ref).toArray k) :: (ts.map Tr.ent ++ rest)) := by
  have zz : (fun (_ : Params → Frag) (_ : OpenLaw) => True) K PySem.Challenge.rw_sn0070_01 := by k_fill; trivial
  clear zz
  unfold Spec
  intros
  rename_i hret
  have hq0 : 0 ≤ n.fdiv 3 := Int.fdiv_nonneg h0 (by decide)
  have hu : ValueOk (unseenS (n.fdiv 3)) := unseen_value hq0
  have hz := ok_0X0
  refine wpAny_call ?_
  k_dflt k_enter
  k_steps
  rename News _ _ _ _ => hN
  rename Fr _ _ _ _ => hF
  rename ∀ p ∈ (S, _) :: _, _ => hl9
  have hS := hl9 _ (.head _)
  dsimp only at hS
  refine' fl_loop (pre := filePre n) (fun t => (wordS t, valS t)) [Str.ofString "pile", Str.ofString "seed", Str.ofString "cut", Str.ofString "word"] [⟨_, _, _, _, _⟩] _ rfl hF (fl_start hN) rfl (fun p hp => hl9 p (.tail _ (List.mem_append_right _ hp))) ?turn ?done
  case turn =>
    intro i t c I oI u h tk hti htm hf hq hta hIl hIt off F N QT hQT
    clear hF hN
    obtain ⟨b1, b2, b3, b4, b5, b6⟩ := hts t htm
    obtain ⟨⟨g1, g2⟩, ⟨g3, g4⟩, ⟨g5, g6⟩⟩ := name_facts b1 b2
    have c1 : 0 ≤ t.s.fmod (t.p + 1) := Int.fmod_nonneg_of_pos _ (by omega)
    have c2 : t.s.fmod (t.p + 1) < t.p + 1 := Int.fmod_lt_of_pos _ (by omega)
    have c3 : (unseenS t.s).length = 1 := rfl
    have c4 : (Str.ofString "\t").length = 1 := by decide +kernel
    have c5 : (c.hs.map Hd.ref).length ≤ 20 := by have := fl_len hf; rw [List.length_map]; rw [hlen] at this; exact Nat.le_trans this (Nat.le_of_ble_eq_true rfl)
    have c6 := val_ok (hts t htm)
    unfold valS at c6
    unfold flLed at N
    k_steps
    · rename News _ _ _ _ => N9
      rename Fr _ _ _ _ => F9
      rename ∀ p ∈ (I, _) :: _, _ => l9
      refine hQT _ (fl_end F9 N9 hf hti (kv_lo (by assumption)) off (Nat.ne_of_gt (l9 _ (.head _))) ?_)
      intro z z0 z1
      simp only [List.contains_cons, Bool.or_eq_false_iff, beq_eq_false_iff_ne, List.contains_nil] at z1
      obtain ⟨z1, z2, z3, z4, -⟩ := z1
      simp only [if_neg z0, if_neg z1, if_neg z2, if_neg z3, if_neg z4, kstB, List.contains_cons, beq_eq_false_iff_ne.mpr z1, beq_eq_false_iff_ne.mpr z2, beq_eq_false_iff_ne.mpr z3, beq_eq_false_iff_ne.mpr z4, List.contains_nil, Bool.or_self, Bool.false_eq_true, if_false]
    · rename News _ _ _ _ => N9
      rename Fr _ _ _ _ => F9
      rename ∀ p ∈ (I, _) :: _, _ => l9
      refine hQT _ (fl_end F9 N9 hf hti (kv_up (by assumption)) off (Nat.ne_of_gt (l9 _ (.head _))) ?_)
      intro z z0 z1
      simp only [List.contains_cons, Bool.or_eq_false_iff, beq_eq_false_iff_ne, List.contains_nil] at z1
      obtain ⟨z1, z2, z3, z4, -⟩ := z1
      simp only [if_neg z0, if_neg z1, if_neg z2, if_neg z3, if_neg z4, kstB, List.contains_cons, beq_eq_false_iff_ne.mpr z1, beq_eq_false_iff_ne.mpr z2, beq_eq_false_iff_ne.mpr z3, beq_eq_false_iff_ne.mpr z4, List.contains_nil, Bool.or_self, Bool.false_eq_true, if_false]
  case done =>
    intro c u h tk hf F N
    clear hF hN
    k_steps
    rename News _ _ _ _ => hN
    rename Fr _ _ _ _ => hF
    refine' fl_loop (fun t => (nameS t.b, Str.ofString " \t")) [Str.ofString "pile", Str.ofString "seed"] c.hs c.e rfl hF hN hf (fun p hp => hl9 p (.tail _ (List.mem_append_right _ hp))) ?turn ?done
    case turn =>
      intro i t c I oI u h tk hti htm hf hq hta hIl hIt off F N QT hQT
      clear hF hN
      obtain ⟨b1, b2, b3, b4, b5, b6⟩ := hts t htm
      obtain ⟨⟨g1, g2⟩, -, -⟩ := name_facts b1 b2
      have c5 : (c.hs.map Hd.ref).length ≤ 20 := by have := fl_len hf; rw [List.length_map]; rw [List.length_append, List.length_map, hlen] at this; exact Nat.le_trans this (Nat.le_of_ble_eq_true rfl)
      have c6 := ok_sptab
      unfold flLed at N
      k_steps
      rename News _ _ _ _ => N9
      rename Fr _ _ _ _ => F9
      rename ∀ p ∈ (I, _) :: _, _ => l9
      refine hQT _ (fl_end F9 N9 hf hti rfl off (Nat.ne_of_gt (l9 _ (.head _))) ?_)
      intro z z0 z1
      simp only [List.contains_cons, Bool.or_eq_false_iff, beq_eq_false_iff_ne, List.contains_nil] at z1
      obtain ⟨z1, z2, -⟩ := z1
      simp only [if_neg z0, if_neg z1, if_neg z2, kstB, List.contains_cons, beq_eq_false_iff_ne.mpr z1, beq_eq_false_iff_ne.mpr z2, List.contains_nil, Bool.or_self, Bool.false_eq_true, if_false]
    case done =>
      intro c u h tk hf F N
      clear hF hN
      have hq := fl_ne N (fun p hp => hl9 p (.tail _ (List.mem_append_right _ hp)))
      have c5 : (c.hs.map Hd.ref).length ≤ 20 := by have := congrArg List.length hf; rw [List.length_map]; simp only [List.length_append, List.length_map, hlen] at this; rw [this]; exact Nat.le_of_ble_eq_true rfl
      have c6 := ok_tabS
      have c7 := ok_0x0
      k_steps
      rename News _ _ _ _ => N9
      exact hret _ _ _ _ ⟨_, _, _, _, _, _, rfl, (by rw [List.map_append, hf]; rfl), rfl⟩ (by k_asm) (fl_fin N9)
end Mine
end
section
open PySem.Spec
namespace Mine
open LCg
/-- what the values of the turns are -/
inductive Each {α : Type} (R : α → Value → Prop) : List α → List Value → Prop
  | nil : Each R [] []
  | snoc {ts ys t y} : Each R ts ys → R t y → Each R (ts ++ [t]) (ys ++ [y])
noncomputable def ElEnd (R : Tr → Value → Prop) (t : Tr) (news : List (Addr × Obj)) (y : Value) (news' : List (Addr × Obj)) : Prop := news' = news ∧ R t y
noncomputable def Src3 (prog : Program) (w : World) (A : Around) (h₀ : Heap) (L : Addr) (m : Str → Option Value) (env : Env) (elt : Expr) (x₁ x₂ x₃ : Str) (scope : Scope) (cl : List (Str × Addr)) (Q : Value → Shared → Prop) (xv : Value) (s₁ : Shared) : Prop :=
  ∃ (ax : Addr) (ts : List Tr) (k : Nat) (news : List (Addr × Obj)) (R : Tr → Value → Prop), xv = .ref ax ∧ A.handled = none ∧ Fr h₀ L s₁.heap m ∧ News h₀ L s₁.heap news ∧ (ax, listOf (ts.map Tr.ref).toArray k) ∈ news ∧ (∀ t ∈ ts, t.ent ∈ news) ∧ ts.length ≤ 100 ∧
    (∀ t ys I oI C oC D m₂ h tk (E' : Value → Shared → Prop), t ∈ ts → NsObj oC m₂ → m₂ x₁ = some (.int t.b t.tb) → m₂ x₂ = some (.int t.p t.tp) → m₂ x₃ = some (.int t.s t.ts) → Fr h₀ L h m → News h₀ L h ((I, oI) :: (C, oC) :: (D, lst ys) :: news) → Off3 I C D news → ((@Ne Nat I C) ∧ (@Ne Nat I D) ∧ (@Ne Nat C D)) →
      wpAny (model prog w) A (eval elt (compEnvC scope cl C env)) (CompEnd h₀ L m { s₁ with heap := h, toks := tk } I oI C oC D (lst ys) (fun _ => True) (ElEnd R t news)) E' { s₁ with heap := h, toks := tk }) ∧
    (∀ ys D h tk, Each R ts ys → Fr h₀ L h m → News h₀ L h ((D, lst ys) :: news) → Off1 D news → Q (.ref D) { s₁ with heap := h, toks := tk })
section
variable {prog : Program} {w : World} {A : Around} {E : Value → Shared → Prop} {s : Shared} {h₀ : Heap} {L : Addr} {m : Str → Option Value} {env : Env}
theorem comp3 {elt iter : Expr} {x₁ x₂ x₃ : Str} {p₁ p₂ p₃ tp : Pos} {kk} {scope : Scope} {cl : List (Str × Addr)} {pos : Pos} {Q : Value → Shared → Prop} (F₀ : Fr h₀ L s.heap m)
    (hclos : closureFor scope env = pure cl) (hcell : ∀ y ∈ scope.names, y.2 ≠ .cell) (hkind : scope.kind = .function)
    (hnames : ∀ y ∈ scope.names, y.2 = .local → scope.names.lookup y.1 = some .local) (hx₁ : scope.names.lookup x₁ = some .local) (hx₂ : scope.names.lookup x₂ = some .local) (hx₃ : scope.names.lookup x₃ = some .local) (h12 : x₁ ≠ x₂) (h13 : x₁ ≠ x₃) (h23 : x₂ ≠ x₃)
    (h : wpAny (model prog w) A (eval iter env) (Src3 prog w A h₀ L m env elt x₁ x₂ x₃ scope cl Q) E s)
    (hs : ∀ x, foldedSetIterable iter env x = pure x := by intro _; rfl) :
    wpAny (model prog w) A (eval (.ListComp elt [⟨.Tuple [.Name x₁ p₁, .Name x₂ p₂, .Name x₃ p₃] kk tp, iter, [], 0⟩] scope pos) env) Q E s := by
  rw [eval_ListComp]
  refine wpAny_comprehension_free (use := none) rfl hs hclos hkind hnames (wpAny_mono h (fun xv s₁ h₁ => ?_) fun _ _ e => e)
  obtain ⟨ax, ts, k, news, R, rfl, hh, F, N, hax, hts, hlen, turn, fin⟩ := h₁
  have hlist : ∀ {g : Heap}, News h₀ L g news → g.IsList ax (ts.map Tr.ref).toArray := fun N => ⟨_, (N _ hax).1, rfl, _, rfl⟩
  have hltx : ax < s₁.heap.objs.size := Heap.lt_size (N _ hax).1
  refine wpAny_pyIter_list (hlist N) ?_
  -- the iterator I, the list D, the turn's own names C
  generalize hH : s₁.heap.push { cls := .type "list_iterator", data := .fields #[.ref ax, .int 0 0] } = H
  have sH : H.objs.size = s₁.heap.objs.size + 1 := by rw [← hH, Heap.size_push]
  have up : ∀ b o, s₁.heap.get? b = some o → H.get? b = some o := fun b o e => hH ▸ Heap.get?_push_of_some _ e
  have gI : H.get? s₁.heap.objs.size = some { cls := .type "list_iterator", data := .fields #[.ref ax, .int 0 0] } := hH ▸ Heap.get?_push_size _ rfl
  have F₁ : Fr h₀ L H m := F.keeps up
  have N₁ : News h₀ L H news := N.grown up
  have hIL : s₁.heap.objs.size ≠ L := Nat.ne_of_gt F.ns.lt
  have hI₀ : h₀.get? s₁.heap.objs.size = none := next_is_new F
  have offI : ∀ p ∈ news, p.1 < s₁.heap.objs.size := fun p hp => Heap.lt_size (N p hp).1
  generalize hIe : s₁.heap.objs.size = I at *
  have hDL : H.objs.size ≠ L := Nat.ne_of_gt F₁.ns.lt
  have hD₀ : h₀.get? H.objs.size = none := next_is_new F₁
  refine wpAny_newObj_type (wpAny_newFunctionEnv hcell (by intro y hy; simp at hy) (fun h₂ hns₂ hsb₂ => ?_) hkind)
  dsimp only at hns₂ hsb₂ ⊢
  generalize hH2 : H.push { cls := .type "list", dict := none, data := .seq ([] : List Value).toArray } = H2 at hns₂ hsb₂ ⊢
  have sH2 : H2.objs.size = H.objs.size + 1 := by rw [← hH2, Heap.size_push]
  have up2 : ∀ b o, H.get? b = some o → H2.get? b = some o := fun b o e => hH2 ▸ Heap.get?_push_of_some _ e
  have gD : H2.get? H.objs.size = some (lst []) := hH2 ▸ Heap.get?_push_size _ rfl
  have F₂ : Fr h₀ L H2 m := F₁.keeps up2
  have hCL : H2.objs.size ≠ L := Nat.ne_of_gt F₂.ns.lt
  have hC₀ : h₀.get? H2.objs.size = none := next_is_new F₂
  have hDe : H.objs.size = I + 1 := sH
  have hCe : H2.objs.size = I + 1 + 1 := by rw [sH2, hDe]
  generalize H.objs.size = D at *
  generalize H2.objs.size = C at *
  have hID : I ≠ D := by rw [hDe]; exact Nat.ne_of_lt (Nat.lt_succ_self _)
  have hIC : I ≠ C := by rw [hCe]; exact Nat.ne_of_lt (Nat.lt_trans (Nat.lt_succ_self _) (Nat.lt_succ_self _))
  have hDC : D ≠ C := by rw [hDe, hCe]; exact Nat.ne_of_lt (Nat.lt_succ_self _)
  have off : ∀ p ∈ news, p.1 ≠ I ∧ p.1 ≠ C ∧ p.1 ≠ D := fun p hp => by
    have := offI p hp
    exact ⟨Nat.ne_of_lt this, by rw [hCe]; exact Nat.ne_of_lt (Nat.lt_trans this (Nat.lt_trans (Nat.lt_succ_self _) (Nat.lt_succ_self _))), by rw [hDe]; exact Nat.ne_of_lt (Nat.lt_trans this (Nat.lt_succ_self _))⟩
  have old : ∀ b o, b ≠ C → H2.get? b = some o → h₂.get? b = some o := fun b o hb e => hsb₂.extBut b o hb (Heap.get?_push_of_some _ e)
  have W := Walks.list (prog := prog) (w := w) hh I ax (fun q => Nat.ne_of_lt hltx q) (ts.map Tr.ref).toArray
  have loop : ∀ s₃ : Shared, s₃ = { s₁ with heap := h₂, toks := s₁.toks + ([] : List (Str × Value)).length } →
      codeAny (model prog w) A (.compLoop (.ListComp elt [⟨.Tuple [.Name x₁ p₁, .Name x₂ p₂, .Name x₃ p₃] kk tp, iter, [], 0⟩] scope pos) 0 (.ref I) (.ref D) (compEnvC scope cl C env))
        (compPost (model prog w) A E none Q (.ref D) C) s₃ := by
    rintro s₃ rfl
    refine kcp_loop
      (fun n s' => ∃ h' tk i ys m', s' = { s₁ with heap := h', toks := tk } ∧ i ≤ ts.length ∧ n = ts.length + 1 - i ∧ ys.length = i ∧ Each R (ts.take i) ys ∧ (h'.IsListIter I ax i ∧ h'.IsList ax (ts.map Tr.ref).toArray) ∧ Fr h₀ L h' m ∧ h'.Ns C m' ∧ News h₀ L h' ((D, lst ys) :: news)) ?_ (ts.length + 1)
      ⟨h₂, _, 0, [], _, rfl, Nat.zero_le _, rfl, rfl, .nil, ⟨⟨_, old _ _ hIC (up2 _ _ gI), rfl, rfl⟩, ⟨_, old _ _ (off _ hax).2.1 (up2 _ _ (N₁ _ hax).1), rfl, _, rfl⟩⟩, ?_, hns₂, ?_⟩
    · rintro n s' ⟨h', tk, i, ys, m', rfl, hi, rfl, hyl, hE, hst, F', hn', N'⟩
      by_cases hlt : i < ts.length
      · refine W.item i _ _ _ (by simpa using hlt) hst fun v h₃ tk₃ hv hst₃ hk₃ => ?_
        have hv' : (ts.map Tr.ref)[i]? = some v := by simpa using hv
        rw [List.getElem?_map] at hv'
        obtain ⟨t, ht, rfl⟩ := Option.map_eq_some_iff.mp hv'
        have hm : t ∈ ts := List.mem_of_getElem? ht
        have N₃ : News h₀ L h₃ ((D, lst ys) :: news) := news_but N' hk₃ fun p hp => by
          rcases List.mem_cons.mp hp with rfl | hp
          · exact hID.symm
          · exact (off p hp).1
        have F₃ : Fr h₀ L h₃ m := fr_but F' hk₃ hIL.symm hI₀
        have hn₃ : h₃.Ns C m' := hn'.at' fun o e => hk₃ _ o (by simpa using hIC.symm) e
        have htup : IsTup h₃ t.a #[.int t.b t.tb, .int t.p t.tp, .int t.s t.ts] := ⟨_, (N₃ _ (.tail _ (hts t hm))).1, rfl, _, rfl⟩
        refine wpAny_letOwnedTupleGo_listiter hst₃.1 ?_
        refine assign_Tuple_tuple hh htup rfl rfl fun h₄ he₄ => ?_
        have up₄ : ∀ b o, h₃.get? b = some o → h₄.get? b = some o := fun b o e => he₄ b o (Nat.ne_of_lt (Heap.lt_size e)) e
        refine assignInOrder_cons (wpAny_assign_Name (wpAny_storeName_local (lookup_relabel_local hx₁) (hn₃.at' fun o e => up₄ _ o e) (fun h₅ hn₅ hs₅ => ?_) (by simp [compEnvC, relabel, hkind])))
        refine assignInOrder_cons (wpAny_assign_Name (wpAny_storeName_local (lookup_relabel_local hx₂) hn₅ (fun h₆ hn₆ hs₆ => ?_) (by simp [compEnvC, relabel, hkind])))
        refine assignInOrder_cons (wpAny_assign_Name (wpAny_storeName_local (lookup_relabel_local hx₃) hn₆ (fun h₇ hn₇ hs₇ => ?_) (by simp [compEnvC, relabel, hkind])))
        refine assignInOrder_nil ?_
        have up₇ : ∀ b o, b ≠ C → h₃.get? b = some o → h₇.get? b = some o := fun b o hb e => hs₇.extBut b o hb (hs₆.extBut b o hb (hs₅.extBut b o hb (up₄ b o e)))
        have F₇ : Fr h₀ L h₇ m := (((F₃.keeps up₄).change hs₅ hCL hC₀).change hs₆ hCL hC₀).change hs₇ hCL hC₀
        obtain ⟨oI, gI₃, -⟩ := hst₃.1
        have gI₇ := up₇ _ _ hIC gI₃
        obtain ⟨oC, gC₇, hoC⟩ := ns_obj hn₇
        have N₇ : News h₀ L h₇ ((I, oI) :: (C, oC) :: (D, lst ys) :: news) := fun p hp => by
          rcases List.mem_cons.mp hp with rfl | hp
          · exact ⟨gI₇, hIL, hI₀⟩
          · rcases List.mem_cons.mp hp with rfl | hp
            · exact ⟨gC₇, hCL, hC₀⟩
            · refine ⟨up₇ _ _ ?_ (N₃ p hp).1, (N₃ p hp).2⟩
              rcases List.mem_cons.mp hp with rfl | hp
              · exact hDC
              · exact (off p hp).2.1
        refine wpAny_mono (turn t ys I oI C oC D _ h₇ _ _ hm hoC (by simp [h12, h13]) (by simp [h23]) (by simp) F₇ N₇ (Off3.of off) ⟨hIC, hID, hDC.symm⟩) (fun y s₈ h₈ => ?_) fun _ _ e => e
        obtain ⟨h₈, tk₈, news₈, rfl, F₈, N₈, -, -, rfl, hR⟩ := h₈
        have zI := (N₈ _ (.head _)).1
        have zC := (N₈ _ (.tail _ (.head _))).1
        have zD := (N₈ _ (.tail _ (.tail _ (.head _)))).1
        have hst₈ : h₈.IsListIter I ax (i + 1) ∧ h₈.IsList ax (ts.map Tr.ref).toArray := by
          obtain ⟨⟨o', q, r⟩, -⟩ := hst₃
          have e : some o' = some oI := q.symm.trans gI₃
          cases e
          exact ⟨⟨_, zI, r⟩, _, (N₈ _ (.tail _ (.tail _ (.tail _ hax)))).1, rfl, _, rfl⟩
        refine append_at (hsz := by show ys.toArray.size ≤ sizeLine; rw [List.size_toArray, hyl, sizeLine_eq]; omega) zD fun h₉ hs₉ hD₉ => ?_
        have nD : ∀ b o, b ≠ D → h₈.get? b = some o → h₉.get? b = some o := fun b o hb e => hs₉.extBut b o hb e
        refine ⟨ts.length + 1 - (i + 1), by omega, h₉, tk₈, i + 1, ys ++ [y], _, rfl, hlt, rfl, by rw [List.length_append, hyl]; rfl, ?_, ?_, F₈.change hs₉ hDL hD₀, (hoC.ns zC).sameBut hs₉ hDC.symm, ?_⟩
        · have : ts.take (i + 1) = ts.take i ++ [t] := by rw [List.take_add_one, ht]; rfl
          rw [this]
          exact .snoc hE hR
        · obtain ⟨⟨o', q, r⟩, o'', q', r'⟩ := hst₈
          exact ⟨⟨o', nD _ _ hID q, r⟩, o'', nD _ _ (off _ hax).2.2 q', r'⟩
        · intro p hp
          rcases List.mem_cons.mp hp with rfl | hp
          · exact ⟨hD₉.trans (congrArg some (lst_snoc ys y)), hDL, hD₀⟩
          · exact ⟨nD _ _ (off p hp).2.2 (N₈ p (.tail _ (.tail _ (.tail _ hp)))).1, (N p hp).2⟩
      · obtain rfl : i = ts.length := Nat.le_antisymm hi (Nat.not_lt.mp hlt)
        have hst' : h'.IsListIter I ax (ts.map Tr.ref).toArray.size ∧ h'.IsList ax (ts.map Tr.ref).toArray := by simpa using hst
        refine W.done _ _ _ hst' fun h₃ tk₃ hk₃ => ?_
        rw [List.take_length] at hE
        have N₃ : News h₀ L h₃ ((D, lst ys) :: news) := news_but N' hk₃ fun p hp => by
          rcases List.mem_cons.mp hp with rfl | hp
          · exact hID.symm
          · exact (off p hp).1
        have F₃ : Fr h₀ L h₃ m := fr_but F' hk₃ hIL.symm hI₀
        refine ⟨m', hn'.at' fun o e => hk₃ _ o (by simpa using hIC.symm) e, fun h₄ hs₄ => fin ys D h₄ tk₃ hE (F₃.change hs₄ hCL hC₀) (fun p hp => ?_) (Off3.one (Off3.of off))⟩
        refine ⟨hs₄.extBut _ _ ?_ (N₃ p hp).1, (N₃ p hp).2⟩
        rcases List.mem_cons.mp hp with rfl | hp
        · exact hDC
        · exact (off p hp).2.1
    · exact ⟨F₂.ns.at' fun o e => old _ o hCL.symm e, fun b o e => old _ _ (fun q => by rw [q, hC₀] at e; cases e) (F₂.keep b o e), F₂.above⟩
    · intro p hp
      rcases List.mem_cons.mp hp with rfl | hp
      · exact ⟨old _ _ hDC gD, hDL, hD₀⟩
      · exact ⟨old _ _ (off p hp).2.1 (up2 _ _ (N₁ p hp).1), (N p hp).2⟩
  exact codeAny_compStart_list (loop _ rfl) (W.self 0 _ _ _ ⟨⟨_, old _ _ hIC (up2 _ _ gI), rfl, rfl⟩, ⟨_, old _ _ (off _ hax).2.1 (up2 _ _ (N₁ _ hax).1), rfl, _, rfl⟩⟩ (loop _ rfl))
end
end Mine
end
section
open PySem.Spec
namespace Mine
open LCg
section
variable {prog : Program} {w : World} {A : Around} {h₀ : Heap} {L : Addr} {m : Str → Option Value} {env : Env} {ct elt : Expr} {x : Str} {scope : Scope} {cl : List (Str × Addr)} {s : Shared} {S : List (Addr × Obj) → Prop} {P : Nat → Value → Prop} {Fin : List Value → List (Addr × Obj) → Prop} {news : List (Addr × Obj)}
theorem CompEnd.mono {s₁ s₂ : Shared} {I C D : Addr} {oI oC oD : Obj} {r r' : Value → List (Addr × Obj) → Prop} {y : Value} (h : CompEnd h₀ L m s₁ I oI C oC D oD S r y s₂) (hr : ∀ y n, r y n → r' y n) : CompEnd h₀ L m s₁ I oI C oC D oD S r' y s₂ := by
  obtain ⟨h', tk, n', e, F, N, o, hS, q⟩ := h
  exact ⟨h', tk, n', e, F, N, o, hS, hr _ _ q⟩
noncomputable def InEnd (J : List Value → Prop) (news : List (Addr × Obj)) (ys : List Value) (y : Value) (news' : List (Addr × Obj)) : Prop := news' = news ∧ J (ys ++ [y])
noncomputable def OutEnd (J : List Value → Prop) (news : List (Addr × Obj)) (ys : List Value) (_ : Value) (news' : List (Addr × Obj)) : Prop := news' = news ∧ J ys
theorem restT_inv {n : Nat} (J : Nat → List Value → Prop)
    (turn : ∀ i v ys I oI C oC D m₂ h tk (E' : Value → Shared → Prop), i < n → P i v → J i ys → NsObj oC m₂ → m₂ x = some v → Fr h₀ L h m → News h₀ L h ((I, oI) :: (C, oC) :: (D, lst ys) :: news) → Off3 I C D news → ((@Ne Nat I C) ∧ (@Ne Nat I D) ∧ (@Ne Nat C D)) →
      wpAny (model prog w) A (isTrue ct (compEnvC scope cl C env) (eval ct (compEnvC scope cl C env))) (fun ok s' => if ok = true then
        wpAny (model prog w) A (eval elt (compEnvC scope cl C env)) (CompEnd h₀ L m { s with heap := h, toks := tk } I oI C oC D (lst ys) S (InEnd (J (i + 1)) news ys)) E' s'
        else CompEnd h₀ L m { s with heap := h, toks := tk } I oI C oC D (lst ys) S (OutEnd (J (i + 1)) news ys) Value.none s') E' { s with heap := h, toks := tk })
    (fin : ∀ ys, J n ys → Fin ys news) (h0 : J 0 []) : LCt.CompRestT prog w A h₀ L m env ct elt x scope cl s S P Fin n 0 [] news := by
  have key : ∀ (k i : Nat) (ys : List Value), k + i = n → J i ys → LCt.CompRestT prog w A h₀ L m env ct elt x scope cl s S P Fin k i ys news := by
    intro k
    induction k with
    | zero =>
      intro i ys hi hj
      obtain rfl : i = n := by omega
      exact LCt.CompRestT.zero (fin ys hj)
    | succ k ih =>
      intro i ys hi hj
      refine LCt.CompRestT.succ ?_
      intro v I oI C oC D m₂ h tk E' hv hC hx F N off ne
      refine wpAny_mono (turn i v ys I oI C oC D m₂ h tk E' (by omega) hv hj hC hx F N off ne) (fun ok s' hq => ?_) fun _ _ e => e
      cases ok with
      | true =>
        simp only [if_true] at hq ⊢
        exact wpAny_mono hq (fun y s₂ hy => CompEnd.mono hy (fun y n q => by obtain ⟨rfl, q⟩ := q; exact ih (i + 1) _ (by omega) q)) fun _ _ e => e
      | false =>
        simp only [Bool.false_eq_true, if_false] at hq ⊢
        exact CompEnd.mono hq (fun y n q => by obtain ⟨rfl, q⟩ := q; exact ih (i + 1) _ (by omega) q)
  exact key n 0 [] (by omega) h0
theorem rest_inv {n : Nat} (J : Nat → List Value → Prop)
    (turn : ∀ i v ys I oI C oC D m₂ h tk (E' : Value → Shared → Prop), i < n → P i v → J i ys → NsObj oC m₂ → m₂ x = some v → Fr h₀ L h m → News h₀ L h ((I, oI) :: (C, oC) :: (D, lst ys) :: news) → Off3 I C D news → ((@Ne Nat I C) ∧ (@Ne Nat I D) ∧ (@Ne Nat C D)) →
      wpAny (model prog w) A (eval elt (compEnvC scope cl C env)) (CompEnd h₀ L m { s with heap := h, toks := tk } I oI C oC D (lst ys) S (InEnd (J (i + 1)) news ys)) E' { s with heap := h, toks := tk })
    (fin : ∀ ys, J n ys → Fin ys news) (h0 : J 0 []) : CompRest prog w A h₀ L m env elt x scope cl s S P Fin n 0 [] news := by
  have key : ∀ (k i : Nat) (ys : List Value), k + i = n → J i ys → CompRest prog w A h₀ L m env elt x scope cl s S P Fin k i ys news := by
    intro k
    induction k with
    | zero =>
      intro i ys hi hj
      obtain rfl : i = n := by omega
      exact CompRest.zero (fin ys hj)
    | succ k ih =>
      intro i ys hi hj
      refine CompRest.succ ?_
      intro v I oI C oC D m₂ h tk E' hv hC hx F N off ne
      exact wpAny_mono (turn i v ys I oI C oC D m₂ h tk E' (by omega) hv hj hC hx F N off ne) (fun y s₂ hy => CompEnd.mono hy (fun y n q => by obtain ⟨rfl, q⟩ := q; exact ih (i + 1) _ (by omega) q)) fun _ _ e => e
  exact key n 0 [] (by omega) h0
/-- the end of an element's walk: the ledger's first three are the comprehension's own -/
theorem in_end {J : List Value → Prop} {ys : List Value} {I C D : Addr} {oI oC : Obj} {s₁ : Shared} {y : Value} {h' : Heap} {tk : Nat} (F : Fr h₀ L h' m) (N : News h₀ L h' ((I, oI) :: (C, oC) :: (D, lst ys) :: news)) (off : Off3 I C D news) (hS : S news) (hJ : J (ys ++ [y])) :
    CompEnd h₀ L m s₁ I oI C oC D (lst ys) S (InEnd J news ys) y { s₁ with heap := h', toks := tk } := ⟨h', tk, news, rfl, F, N, off, hS, rfl, hJ⟩
theorem out_end {J : List Value → Prop} {ys : List Value} {I C D : Addr} {oI oC : Obj} {s₁ : Shared} {h' : Heap} {tk : Nat} (F : Fr h₀ L h' m) (N : News h₀ L h' ((I, oI) :: (C, oC) :: (D, lst ys) :: news)) (off : Off3 I C D news) (hS : S news) (hJ : J ys) :
    CompEnd h₀ L m s₁ I oI C oC D (lst ys) S (OutEnd J news ys) .none { s₁ with heap := h', toks := tk } := ⟨h', tk, news, rfl, F, N, off, hS, rfl, hJ⟩
theorem el_end {R : Tr → Value → Prop} {t : Tr} {ys : List Value} {I C D : Addr} {oI oC : Obj} {s₁ : Shared} {y : Value} {h' : Heap} {tk : Nat} (F : Fr h₀ L h' m) (N : News h₀ L h' ((I, oI) :: (C, oC) :: (D, lst ys) :: news)) (off : Off3 I C D news) (hR : R t y) :
    CompEnd h₀ L m s₁ I oI C oC D (lst ys) (fun _ => True) (ElEnd R t news) y { s₁ with heap := h', toks := tk } := ⟨h', tk, news, rfl, F, N, off, trivial, rfl, hR⟩
end
end Mine
end
section
namespace Mine
noncomputable def DStop (p : Prop) : Prop := p
theorem dstop {p : Prop} (h : DStop p) : p := h
local macro_rules | `(tactic| walk_at "CompSrc") => `(tactic| (refine dstop ?_))
theorem ints_len2 {us : List Value} {cs : List Int} (h : IntsAre us cs) : (us.length : Int) = (cs.length : Int) := congrArg _ h.length
local macro_rules | `(tactic| walk_at "call builtin:len") => `(tactic| (k_here; (with_reducible show wpAny _ _ (call (Value.builtin "len") [Value.ref _]) _ _ _); k_dflt (refine' ktm_lenK ?k1 ?k2 ?k3 ?k4 ?_; (case k1 => k_asm); (case k2 => k_mem); (case k3 => rw [IntsAre.length (by assumption), List.length_map]; omega); (case k4 => exact ints_len2 (by assumption)); k_whole)))
theorem five_ints {a b c d e : Int} {ta tb tc td te : Tok} : IntsAre [.int a ta, .int b tb, .int c tc, .int d td, .int e te] [a, b, c, d, e] := .cons _ _ (.cons _ _ (.cons _ _ (.cons _ _ (.cons _ _ .nil))))
local macro_rules | `(tactic| walk_at "subscriptTail Name Slice ref ref") => `(tactic| (k_here; (with_reducible show wpAny _ _ (subscriptTail _ (PySem.Expr.Slice _ _ none _) (Value.ref _) (Value.ref _)) _ _ _); k_dflt (refine' kmk_slice_ints ?F ?N ?l ?p ?q ?i ?m ?c ?_ ?s ?t ?z; (case F => k_asm); (case N => k_asm); (case l => exact News.isList (by k_asm) (by k_mem)); (case p => exact IsPart.int _ _); (case q => exact IsPart.none); (case i => exact five_ints); (case m => exact kmk_from five_ints (by omega)); (case c => exact List.length_drop ..); (case s => with_unfolding_all rfl); (case t => kmk_pure); (case z => exact Nat.le_of_ble_eq_true rfl)); intro D' ws' h' F' N' l1 hI' hC' hL'; (try k_lt l1); (try k_sweep)))
theorem ints_get2 {vs : List Value} {ns : List Int} (h : IntsAre vs ns) : ∀ {j : Nat} {v : Value}, vs[j]? = some v → ∃ c t, ns[j]? = some c ∧ v = .int c t := by
  induction h with
  | nil => intro j v h; cases h
  | cons x t _ ih =>
    intro j v h
    cases j with
    | zero => cases h; exact ⟨_, _, rfl, rfl⟩
    | succ j => exact ih h
theorem ints_take {ys : List Value} {f : Int → Int} {l : List Int} {j : Nat} {c : Int} {u : Tok} (h : IntsAre ys ((l.take j).map f)) (hc : l[j]? = some c) : IntsAre (ys ++ [.int (f c) u]) ((l.take (j + 1)).map f) := by
  rw [List.take_add_one, hc, List.map_append]
  exact IntsAre.append h (.cons _ _ .nil)
noncomputable def drawI (ns : List Int) : List Int := List.map (fun x => x.fmod 1000000) (List.take 5 ns) ++ List.drop (List.take 5 ns).length [49, 59, 90, 527, 86]
theorem draw_spec (w : World) (l : Addr) (vs : List Value) (ns : List Int) (hns : IntsAre vs ns) (hlen : ns.length ≤ 63) (news : List (Addr × Obj)) 
   (dp un : Nat) (gd : Option (List Code)) (cn : Str) (nm : List (Str × NameKind)) (ig ic : Bool) (mo : List (Str × Const)) (a : Addr) (ccd : Value) (cl : List (Str × Addr)) (outer : List Env) (A₀ : Around) (base h₀ : Heap) (L : Addr) (m : Str → Option Value) (s : Shared) (Q E : Value → Shared → Prop) (mean : ExcName → Option Value) (mg mb : Str → Option Value) (B : 
    Below A₀ base outer h₀) (hl : base.IsList l vs.toArray) (F : Fr h₀ L s.heap m) (X : (K w.params).In h₀) (N : News h₀ L s.heap news) (T : Top q (looseW q loose) mean mg mb h₀)
      (hd : dp + 8 < recursionLimit) (hu : un + 40 < cLine)
      (hret : ∀ (v : Value) (news' : List (Addr × Obj)) (h' : Heap) (tk' : Nat), (∃ r us, v = .ref r ∧ news' = (r, listOf (List.toArray us) 0) :: news ∧ IntsAre us (drawI ns)) → Fr h₀ L h' m → News h₀ L h' news' → Q v { s with heap := h', toks := tk' }) :
      wpAny (model PySem.Challenge.rw_sn0070_01.row.prog w) (ktrTop dp un gd cn ⟨.function, nm, ig, ic, mo⟩ L a ccd cl outer) (call (.ref 306) [.ref l]) Q E s := by
  have zz : (fun (_ : Params → Frag) (_ : OpenLaw) => True) K PySem.Challenge.rw_sn0070_01 := by k_fill; trivial
  clear zz
  refine wpAny_call ?_
  k_dflt k_enter
  k_steps
  unfold DStop
  rename News _ _ _ _ => hN5
  rename Fr _ _ _ _ => hF5
  rename IntsAre _ _ => hI5
  have hl5 := hI5.length
  refine LCg.CompSrc.ledger rfl hF5 hN5 (.head _) ?hz ?_
  case hz => (rw [List.size_toArray, hl5, sizeLine_eq]; omega)
  intro gg
  refine rest_inv (fun j ys => IntsAre ys (((List.take 5 ns).take j).map fun x => x.fmod 1000000)) ?turn ?fin .nil
  case turn =>
    intro j v ys4 I4 oI4 C4 oC4 D5 m4 h5 tk5 E5 hj hv hys hC4 hx4 F5 N5 off5 ne5
    obtain ⟨c, t4, hc, rfl⟩ := ints_get2 hI5 (by simpa using hv)
    clear hI5
    k_steps
    exact in_end F5 N5 off5 (.inr ⟨_, .head _, rfl, _, rfl⟩) (ints_take (f := fun x => x.fmod 1000000) hys hc)
  case fin =>
    intro ys5 hys5
    rw [List.size_toArray, hl5, List.take_length] at hys5
    clear hI5
    intro D5 h5 tk5 F5 N5 off5
    (try dsimp only)
    k_steps
    rename IntsAre _ _ => hI9
    refine hret _ _ _ _ ⟨_, _, rfl, rfl, ?_⟩ (by k_asm) (cb_drop (by k_asm) (by kcj_all))
    rw [Int.toNat_natCast, List.length_map] at hI9
    exact hI9
end Mine
end
end
section
namespace Mine
theorem ints_five {us : List Value} {l : List Int} (h : IntsAre us l) (h5 : l.length = 5) : ∃ a b c d e ta tb tc td te, us = [.int a ta, .int b tb, .int c tc, .int d td, .int e te] ∧ l = [a, b, c, d, e] := by
  match l, h5 with
  | [a, b, c, d, e], _ =>
    cases h with | cons _ ta h =>
    cases h with | cons _ tb h =>
    cases h with | cons _ tc h =>
    cases h with | cons _ td h =>
    cases h with | cons _ te h =>
    cases h
    exact ⟨a, b, c, d, e, ta, tb, tc, td, te, rfl, rfl⟩
theorem drawI_len (ns : List Int) : (drawI ns).length = 5 := by
  unfold drawI
  simp only [List.length_append, List.length_map, List.length_drop, List.length_take, List.length_cons, List.length_nil]
  omega
theorem drawI_ok (ns : List Int) : ∀ x ∈ drawI ns, 0 ≤ x ∧ x < 1000000 := by
  intro x hx
  unfold drawI at hx
  rcases List.mem_append.mp hx with h | h
  · obtain ⟨y, -, rfl⟩ := List.mem_map.mp h
    exact ⟨Int.fmod_nonneg_of_pos _ (by decide), Int.fmod_lt_of_pos _ (by decide)⟩
  · have h' := List.mem_of_mem_drop h
    have : ∀ x ∈ ([49, 59, 90, 527, 86] : List Int), 0 ≤ x ∧ x < 1000000 := by decide
    exact this x h'
noncomputable def five (a b c d e : Int) (ta tb tc td te : Tok) : List Value := [.int a ta, .int b tb, .int c tc, .int d td, .int e te]
theorem draw_use {w : World} {l : Addr} {vs : List Value} {ns : List Int} {news : List (Addr × Obj)} {dp un : Nat} {gd : Option (List Code)} {cn : Str} {nm : List (Str × NameKind)} {ig ic : Bool} {mo : List (Str × Const)} {a : Addr} {ccd : Value} {cl : List (Str × Addr)} {outer : List Env} {A₀ : Around} {base h₀ : Heap} {L : Addr} {m : Str → Option Value} {s : Shared} {Q E : Value → Shared → Prop} {mean : ExcName → Option Value} {mg mb : Str → Option Value}
    (B : Below A₀ base outer h₀) (F : Fr h₀ L s.heap m) (X : (K w.params).In h₀) (N : News h₀ L s.heap news) (T : Top q (looseW q loose) mean mg mb h₀) (hns : IntsAre vs ns) (hlen : ns.length ≤ 63) (hl : base.IsList l vs.toArray)
    (hd : dp + 8 < recursionLimit) (hu : un + 40 < cLine)
    (hret : ∀ r a b c d e ta tb tc td te h' tk', 0 ≤ a → a < 1000000 → 0 ≤ b → b < 1000000 → 0 ≤ c → c < 1000000 → 0 ≤ d → d < 1000000 → 0 ≤ e → e < 1000000 → Fr h₀ L h' m → News h₀ L h' ((r, listOf #[.int a ta, .int b tb, .int c tc, .int d td, .int e te] 0) :: news) → Q (.ref r) { s with heap := h', toks := tk' }) :
    wpAny (model PySem.Challenge.rw_sn0070_01.row.prog w) (ktrTop dp un gd cn ⟨.function, nm, ig, ic, mo⟩ L a ccd cl outer) (call (.ref 306) [.ref l]) Q E s := by
  refine draw_spec w l vs ns hns hlen news _ _ _ _ _ _ _ _ _ _ _ _ _ _ _ _ _ _ _ _ _ _ _ B hl F X N T hd hu ?_
  rintro v news' h' tk' ⟨r, us, rfl, rfl, hI⟩ F' N'
  have ok := drawI_ok ns
  obtain ⟨a, b, c, d, e, ta, tb, tc, td, te, rfl, hl'⟩ := ints_five hI (drawI_len ns)
  rw [hl'] at ok
  exact hret r a b c d e ta tb tc td te h' tk' (ok _ (by simp)).1 (ok _ (by simp)).2 (ok _ (by simp)).1 (ok _ (by simp)).2 (ok _ (by simp)).1 (ok _ (by simp)).2 (ok _ (by simp)).1 (ok _ (by simp)).2 (ok _ (by simp)).1 (ok _ (by simp)).2 F' N'
/-- an abstract part of the ledger moves to its end -/
theorem led_swap {h₀ h : Heap} {L : Addr} {x : Addr × Obj} {b c : List (Addr × Obj)} (N : News h₀ L h (x :: (b ++ c))) : News h₀ L h (x :: (c ++ b)) := by
  intro p hp
  refine N p ?_
  rcases List.mem_cons.mp hp with h | h
  · exact h ▸ .head _
  · exact .tail _ (List.mem_append.mpr (List.mem_append.mp h).symm)
theorem cell_ne1 {h₀ h : Heap} {L a b : Addr} {o o' : Obj} {news : List (Addr × Obj)} {v : Option Value} (N : News h₀ L h news) (ha : (a, o) ∈ news) (hb : (b, o') ∈ news) (hd : ∀ v, o.data ≠ .cell v) (hc : o'.data = .cell v) : @Ne Nat a b := by
  rintro rfl
  have e1 := (N _ ha).1
  have e2 := (N _ hb).1
  dsimp only at e1 e2
  rw [e1] at e2
  exact hd v ((congrArg Obj.data (Option.some.inj e2)).trans hc)
theorem cell_ne2 {h₀ h : Heap} {L a b : Addr} {o o' : Obj} {news : List (Addr × Obj)} {v : Option Value} (N : News h₀ L h news) (ha : (a, o) ∈ news) (hb : (b, o') ∈ news) (hc : o.data = .cell v) (hd : ∀ v, o'.data ≠ .cell v) : @Ne Nat a b := (cell_ne1 N hb ha hd hc).symm
noncomputable def NoCell (l : List (Addr × Obj)) : Prop := ∀ p ∈ l, ∀ v, p.2.data ≠ .cell v
theorem blob_ne {h₀ h : Heap} {L b : Addr} {o' : Obj} {news blob : List (Addr × Obj)} {v : Option Value} (N : News h₀ L h news) (hs : ∀ p ∈ blob, p ∈ news) (hb : (b, o') ∈ news) (hc : o'.data = .cell v) (hd : NoCell blob) : ∀ p ∈ blob, p.1 ≠ b :=
  fun p hp => cell_ne1 (a := p.1) (o := p.2) N (hs p hp) hb (hd p hp) hc
theorem NoCell.trs (ts : List Tr) : NoCell (ts.map Tr.ent) := by
  intro p hp v h
  obtain ⟨t, -, rfl⟩ := List.mem_map.mp hp
  cases h
theorem NoCell.hds (hs : List Hd) : NoCell (hs.map Hd.ent) := by
  intro p hp v h
  obtain ⟨t, -, rfl⟩ := List.mem_map.mp hp
  cases h
theorem file_specU (w : World) (S : Addr) (ts : List Tr) (k : Nat) (n : Int) (tn : Tok) (h0 : 0 ≤ n) (hts : ∀ t ∈ ts, trOk t) (hlen : ts.length = 4) (news : List (Addr × Obj)) (hS : (S, listOf (ts.map Tr.ref).toArray k) ∈ news) (ht : ∀ p ∈ ts.map Tr.ent, p ∈ news) :
    Spec 4 w (.ref 334) [.ref S, .int n tn] [] news (fun v news' => ∃ (x d l : Addr) (t : Tok) (hs : List Hd) (e : Nat), v = .ref x ∧ hs.map Hd.kv = fileKv ts n ∧ news' = (x, instObj 276 d) :: (d, dictOf [dE w "_headers" t (.ref l)] 1) :: (l, listOf (hs.map Hd.ref).toArray e) :: (news ++ hs.map Hd.ent)) := by
  refine Spec.frame (file_spec w S ts k n tn h0 hts hlen news) ?_ ?_
  · intro p hp
    rcases List.mem_cons.mp hp with rfl | hp
    · exact hS
    · exact (List.mem_append.mp hp).elim (ht p) id
  · rintro v n' ⟨x, d, l, t, hs, e, rfl, hkv, rfl⟩
    refine ⟨_, ⟨x, d, l, t, hs, e, rfl, hkv, rfl⟩, ?_⟩
    intro p hp
    unfold fileLed
    rcases List.mem_cons.mp hp with rfl | hp
    · exact .head _
    rcases List.mem_cons.mp hp with rfl | hp
    · exact .tail _ (.head _)
    rcases List.mem_cons.mp hp with rfl | hp
    · exact .tail _ (.tail _ (.head _))
    rcases List.mem_append.mp hp with hp | hp
    · exact .tail _ (.tail _ (.tail _ (List.mem_append_right _ (.tail _ (List.mem_append_right _ hp)))))
    · exact .tail _ (.tail _ (.tail _ (List.mem_append_left _ hp)))
theorem NoCell.app {a b : List (Addr × Obj)} (ha : NoCell a) (hb : NoCell b) : NoCell (a ++ b) := fun p hp => (List.mem_append.mp hp).elim (ha p) (hb p)
end Mine
end
section
namespace Mine
/-- a lead: a Whitespace and what it holds -/
structure Ld where
  x : Addr
  d : Addr
  T : Addr
  D : Addr
  us : List Value
  cs : List Int
  xv : Value
  n : Int
  nt : Int
  b : Int
  sm : Bool
  t1 : Tok
  t2 : Tok
  t3 : Tok
  t4 : Tok
  t5 : Tok
  tn : Tok
  tnt : Tok
  tb : Tok
noncomputable def Ld.objs (w : World) (c : Ld) : List (Addr × Obj) := wsObjs w c.x c.d c.T c.D c.us c.xv c.n c.nt c.b c.sm c.t1 c.t2 c.t3 c.t4 c.t5 c.tn c.tnt c.tb
noncomputable def Ld.ref (c : Ld) : Value := .ref c.x
noncomputable def bitOf (j k : Nat) : Bool := j / 2 ^ k % 2 == 1
noncomputable def pickTo (ts : List Tr) (j i : Nat) : List Tr := (List.range i).filterMap fun k => if bitOf j k = true then ts[k]? else none
noncomputable def pick (ts : List Tr) (j : Nat) : List Tr := pickTo ts j 4
noncomputable def colI (ts : List Tr) (blanks size : Int) (j : Nat) : Int := blanks + ((pick ts j).map fun t => size * (t.p.fdiv size + 1)).sum
noncomputable def ldOk (ts : List Tr) (blanks : Int) (j : Nat) (c : Ld) : Prop :=
  IntsAre c.us c.cs ∧ c.cs.length ≤ 100 ∧ c.nt = ((pick ts j).length : Int) ∧ ∀ size, 1 ≤ size → size ≤ 4 → indentI size c.cs c.nt c.b = colI ts blanks size j
theorem NoCell.ld (w : World) (lds : List Ld) : NoCell (lds.flatMap (Ld.objs w)) := by
  intro p hp v h
  obtain ⟨c, -, hp⟩ := List.mem_flatMap.mp hp
  unfold Ld.objs wsObjs at hp
  simp only [List.mem_cons, List.not_mem_nil, or_false] at hp
  rcases hp with rfl | rfl | rfl | rfl <;> cases h
structure LwSt where
  lds : List Ld
  e : Nat
  o4 : Obj
noncomputable def lwLed (w : World) (ll c4 : Addr) (e1 e2 e3 e4 e5 e6 e7 e8 e9 e10 e11 : Addr × Obj) (tl : List (Addr × Obj)) (_ : Nat) (c : LwSt) : List (Addr × Obj) :=
  (ll, listOf (c.lds.map Ld.ref).toArray c.e) :: e1 :: e2 :: e3 :: e4 :: e5 :: e6 :: e7 :: e8 :: (c4, c.o4) :: e9 :: e10 :: e11 :: (tl ++ c.lds.flatMap (Ld.objs w))
noncomputable def lwNames (_ : Nat) (_ : LwSt) : List (Str × Value) := []
noncomputable def lwFacts (w : World) (ts : List Tr) (blanks : Int) (ll : Addr) (tl : List (Addr × Obj)) (i : Nat) (c : LwSt) : Prop :=
  c.lds.length = i ∧ (∀ j c', c.lds[j]? = some c' → ldOk ts blanks j c') ∧ (∃ v, c.o4.data = .cell v) ∧ ∀ p ∈ tl ++ c.lds.flatMap (Ld.objs w), p.1 ≠ ll
noncomputable def lwStored : List Str := [Str.ofString "chosen", Str.ofString "words", Str.ofString "text", Str.ofString "lead"]
section
variable {prog : Program} {w : World} {A : Around} {E : Value → Shared → Prop} {s : Shared} {env : Env} {h₀ : Heap} {body orelse : List Stmt} {Q : Flow → Shared → Prop}
theorem lw_loop {ll c4 : Addr} {o4 : Obj} {e1 e2 e3 e4 e5 e6 e7 e8 e9 e10 e11 : Addr × Obj} {tl : List (Addr × Obj)} {ts : List Tr} {blanks : Int} {px : Pos} {r : Addr} {t u v : Tok} {m₀ : Str → Option Value}
    (hh : A.handled = none) (hr : IsRange s.heap r 0 16 1 t u v) (F : Fr h₀ env.locals s.heap m₀) (N : News h₀ env.locals s.heap ((ll, listOf #[] 0) :: e1 :: e2 :: e3 :: e4 :: e5 :: e6 :: e7 :: e8 :: (c4, o4) :: e9 :: e10 :: e11 :: tl))
    (h4 : o4.data = .cell none) (nc : NoCell tl) (htl : ∀ p ∈ tl, p.1 ≠ ll)
    (turn : ∀ (c : LwSt) (i : Nat) (t : Tok) (I : Addr) (oI : Obj) (u : Str → Option Value) h tk v4, i < 16 → c.lds.length = i → (∀ j c', c.lds[j]? = some c' → ldOk ts blanks j c') → c.o4.data = .cell v4 → (∀ p ∈ tl ++ c.lds.flatMap (Ld.objs w), p.1 ≠ ll) → NoCell (tl ++ c.lds.flatMap (Ld.objs w)) →
      (∀ p ∈ lwLed w ll c4 e1 e2 e3 e4 e5 e6 e7 e8 e9 e10 e11 tl i c, p.1 ≠ I) →
      Fr h₀ env.locals h (fun y => if y = Str.ofString "choice" then u y else kstB (fun z => if lwStored.contains z then u z else m₀ z) [] y) → News h₀ env.locals h ((I, oI) :: lwLed w ll c4 e1 e2 e3 e4 e5 e6 e7 e8 e9 e10 e11 tl i c) →
      ∀ QT : Flow → Shared → Prop, (∀ s₂, TEnd h₀ env.locals (TKN (lwLed w ll c4 e1 e2 e3 e4 e5 e6 e7 e8 e9 e10 e11 tl) lwNames (lwFacts w ts blanks ll tl) (Str.ofString "choice") lwStored m₀ (i + 1)) (I, oI) { s with heap := h, toks := tk } s₂ → QT .next s₂) →
      wpAny (model prog w) A (assign (.Name (Str.ofString "choice") px) env (.int (0 + (i : Nat)) t)) (fun _ s₂ => wpAny (model prog w) A (execs body env) QT E s₂) E { s with heap := h, toks := tk })
    (done : ∀ (c : LwSt) (u : Str → Option Value) h tk v4, c.lds.length = 16 → (∀ j c', c.lds[j]? = some c' → ldOk ts blanks j c') → c.o4.data = .cell v4 → NoCell (tl ++ c.lds.flatMap (Ld.objs w)) →
      Fr h₀ env.locals h (fun y => if y = Str.ofString "choice" then u y else kstB (fun z => if lwStored.contains z then u z else m₀ z) [] y) → News h₀ env.locals h (lwLed w ll c4 e1 e2 e3 e4 e5 e6 e7 e8 e9 e10 e11 tl 16 c) →
      wpAny (model prog w) A (execs orelse env) Q E { s with heap := h, toks := tk })
    (hE : PassesOwn (model prog w) A env E := by passes_own) :
    wpAny (model prog w) A (pyIter (.ref r)) (fun it s₂ => MyLoop prog w A (.Name (Str.ofString "choice") px) body orelse env Q E it s₂) E s := by
  refine range_loopK (n := 16) (lwLed w ll c4 e1 e2 e3 e4 e5 e6 e7 e8 e9 e10 e11 tl) lwNames (lwFacts w ts blanks ll tl) lwStored ⟨[], 0, o4⟩ hh hr (by decide) rfl F ?_ ?_ nil_all ?_ ?_ hE
  · unfold lwLed
    simp only [List.flatMap_nil, List.append_nil]
    exact N
  · exact ⟨rfl, nil_at, ⟨_, h4⟩, fun p hp => htl p (by simpa using hp)⟩
  · intro c i t I oI u h tk hi hf off F N
    obtain ⟨f1, f2, ⟨v4, f3⟩, f4⟩ := hf
    exact turn c i t I oI u h tk v4 hi f1 f2 f3 f4 (NoCell.app nc (NoCell.ld w _)) off F N _ (fun _ h => h)
  · intro c u h tk hf F N
    obtain ⟨f1, f2, ⟨v4, f3⟩, f4⟩ := hf
    exact done c u h tk v4 f1 f2 f3 (NoCell.app nc (NoCell.ld w _)) F N
theorem step_item {value slice : Expr} {S : Addr} {L : Addr} {ts : List Tr} {cc : Nat} {k : Int} {u : Tok} {x : Tr} {news : List (Addr × Obj)} {Q : Value → Shared → Prop} (N : News h₀ L s.heap news) (hm : (S, listOf (ts.map Tr.ref).toArray cc) ∈ news) (h0 : decide (0 ≤ k ∧ k < 4) = true) (hx : ts[k.toNat]? = some x) (h : Q (.ref x.a) s)
    (hs : subscripted slice false (.ref S) (.int k u) = operate [.ref S, .int k u] (getItem (.ref S) (.int k u)) := by with_unfolding_all rfl) (hg : ∀ r, letTemporaryGo value (.ref S) r = pure () := by intro _; with_unfolding_all rfl) :
    wpAny (model prog w) A (subscriptTail value slice (.ref S) (.int k u)) Q E s := by
  have hk := of_decide_eq_true h0
  refine PyProof.Rows.item_list (items := (ts.map Tr.ref).toArray) ⟨_, (N _ hm).1, rfl, _, rfl⟩ hk.1 (by omega) (x := .ref x.a) ?_ h hs hg
  simp [hx, Tr.ref]
end
theorem pickTo_succ (ts : List Tr) (i j : Nat) : pickTo ts i (j + 1) = pickTo ts i j ++ (if bitOf i j = true then ts[j]? else none).toList := by
  unfold pickTo
  rw [List.range_succ, List.filterMap_append]
  congr 1
theorem bit_val {i k : Nat} : ((0 + (i : Int)).fdiv (2 ^ Int.toNat (k : Int))).fmod 2 = ((i / 2 ^ k % 2 : Nat) : Int) := by
  have e : (2 : Int) ^ Int.toNat (k : Int) = ((2 ^ k : Nat) : Int) := by rw [Int.toNat_natCast]; push_cast; rfl
  rw [Int.zero_add, e, Int.fdiv_eq_ediv_of_nonneg _ (Int.natCast_nonneg _), Int.fmod_eq_emod_of_nonneg _ (by decide)]
  rfl
theorem bit_yes {i k : Nat} (h : ((0 + (i : Int)).fdiv (2 ^ Int.toNat (k : Int))).fmod 2 = 1) : bitOf i k = true := by
  rw [bit_val] at h
  unfold bitOf
  rw [beq_iff_eq]; omega
theorem bit_no {i k : Nat} (h : ((0 + (i : Int)).fdiv (2 ^ Int.toNat (k : Int))).fmod 2 ≠ 1) : bitOf i k = false := by
  rw [bit_val] at h
  unfold bitOf
  rw [beq_eq_false_iff_ne]; omega
theorem pickTo_sub {ts : List Tr} {i j : Nat} : ∀ t ∈ pickTo ts i j, t ∈ ts := by
  intro t ht
  obtain ⟨k, -, hk⟩ := List.mem_filterMap.mp ht
  split at hk
  · exact List.mem_of_getElem? hk
  · cases hk
theorem pickTo_len {ts : List Tr} {i j : Nat} : (pickTo ts i j).length ≤ j := by
  have := List.length_filterMap_le (fun k => if bitOf i k = true then ts[k]? else none) (List.range j)
  rw [List.length_range] at this
  exact this
theorem each_ints {f : Tr → Int} {ts : List Tr} {ys : List Value} (h : Each (fun t y => ∃ u, y = .int (f t) u) ts ys) : IntsAre ys (ts.map f) := by
  induction h with
  | nil => exact .nil
  | snoc h r ih =>
    obtain ⟨u, rfl⟩ := r
    rw [List.map_append]
    exact IntsAre.append ih (.cons _ _ .nil)
theorem each_strs {f : Tr → Str} {ts : List Tr} {ys : List Value} (h : Each (fun t y => ∃ u, y = .str (f t) u) ts ys) : StrsAre ys (ts.map f) := by
  induction h with
  | nil => exact .nil
  | snoc h r ih =>
    obtain ⟨u, rfl⟩ := r
    rw [List.map_append]
    exact StrsAre.append' ih (.cons _ _ .nil)
noncomputable def flagSum (ts : List Tr) (i : Nat) : Int := ((pick ts i).map fun t => flagI t.b).sum
noncomputable def wordsOf (cs : List Tr) : List Str := if cs = [] then [Str.ofString "0x0"] else cs.map fun t => nameS t.b
noncomputable def textsOf (n : Int) (cs : List Tr) : List Str := if cs = [] then [unseenS (n.fdiv 3)] else cs.map valS
theorem strs_at {vs : List Value} {ws : List Str} (h : StrsAre vs ws) : ∀ {j : Nat} {v : Value}, vs[j]? = some v → ∃ wd tw, ws[j]? = some wd ∧ v = .str wd tw := by
  induction h with
  | nil => intro j v h; cases h
  | cons x t _ ih =>
    intro j v h
    cases j with
    | zero => cases h; exact ⟨_, _, rfl, rfl⟩
    | succ j => exact ih h
theorem strs_snoc {ys : List Value} {tx : List Str} {j : Nat} {v : Str} {u : Tok} (h : StrsAre ys (tx.take j)) (hj : tx[j]? = some v) : StrsAre (ys ++ [.str v u]) (tx.take (j + 1)) := by
  rw [List.take_add_one, hj]
  exact StrsAre.append' h (.cons _ _ .nil)
theorem pick_yes {ts : List Tr} {i j : Nat} {t : Tr} {ys : List Value} (hb : bitOf i j = true) (ht : ts[j]? = some t) (hy : ys = (pickTo ts i j).map Tr.ref) : ys ++ [.ref t.a] = (pickTo ts i (j + 1)).map Tr.ref := by
  rw [pickTo_succ, if_pos hb, ht, List.map_append, hy]; rfl
theorem pick_no {ts : List Tr} {i j : Nat} {ys : List Value} (hb : bitOf i j = false) (hy : ys = (pickTo ts i j).map Tr.ref) : ys = (pickTo ts i (j + 1)).map Tr.ref := by
  rw [pickTo_succ, hb, hy]; simp
end Mine
end
section
open PySem.Spec
namespace Mine
theorem can_strs : ∀ {ws : List Str}, (∀ y ∈ ws, PyData.canLay0 (.str y) = true) → PyData.canLayAll0 (ws.map PyData.str) = true
  | [], _ => rfl
  | y :: r, h => by
    show (PyData.canLay0 (.str y) && PyData.canLayAll0 (r.map PyData.str)) = true
    rw [h y (.head _), can_strs fun z hz => h z (.tail _ hz)]; rfl
theorem depth_strs : ∀ ws : List Str, PyData.depthAll (ws.map PyData.str) = 0
  | [] => rfl
  | _ :: r => by simp [PyData.depthAll, PyData.depth, depth_strs r]
theorem eqv_strs : ∀ ws : List Str, PyData.eqvAll (ws.map PyData.str) (ws.map PyData.str) = true
  | [] => rfl
  | y :: r => by
    show (PyData.eqv (.str y) (.str y) && PyData.eqvAll (r.map PyData.str) (r.map PyData.str)) = true
    rw [eqv_strs r]; simp [PyData.eqv]
noncomputable def trData (t : Tr) : PyData := .tuple [.int t.b, .int t.p, .int t.s]
theorem can_trs : ∀ ts : List Tr, PyData.canLayAll0 (ts.map trData) = true
  | [] => rfl
  | t :: r => by
    show (PyData.canLay0 (trData t) && PyData.canLayAll0 (r.map trData)) = true
    rw [can_trs r]; rfl
theorem depth_trs : ∀ ts : List Tr, PyData.depthAll (ts.map trData) ≤ 1
  | [] => Nat.zero_le _
  | t :: r => by
    have := depth_trs r
    show max (PyData.depth (trData t)) (PyData.depthAll (r.map trData)) ≤ 1
    have h1 : PyData.depth (trData t) = 1 := rfl
    omega
section
variable {prog : Program} {w : World} {A : Around} {E : Value → Shared → Prop} {s : Shared} {a b : Addr} {Q : Value → Shared → Prop}
theorem ne_same_strs {xs ys : List Value} {ws : List Str} (ha : s.heap.IsList a xs.toArray) (hb : s.heap.IsList b ys.toArray) (hx : StrsAre xs ws) (hy : StrsAre ys ws) (hok : ∀ y ∈ ws, PyData.canLay0 (.str y) = true) (hu : A.units + 64 < cLine) (h : Q (.bool false) s) :
    wpAny (model prog w) A (compareOp .NotEq (.ref a) (.ref b)) Q E s := by
  have sh : SeqAt.shaped (.list (ws.map PyData.str)) = true := by
    simp [SeqAt.shaped, PyData.canLay0, PyData.depth, can_strs hok, depth_strs]
  refine ne_dataH (reads_newData ha hx.carried) (reads_newData hb hy.carried) sh sh hu ?_
  have : PyData.eqv (.list (ws.map PyData.str)) (.list (ws.map PyData.str)) = true := by
    simp only [PyData.eqv]; exact eqv_strs ws
  rw [this]; exact h
theorem reads_trs {h : Heap} : ∀ {ts : List Tr}, (∀ t ∈ ts, h.get? t.a = some t.ent.2) → ∃ as, ReadsAll h (ts.map Tr.ref) (ts.map trData) as
  | [], _ => ⟨_, .nil⟩
  | t :: r, g => by
    obtain ⟨as, hr⟩ := reads_trs (ts := r) fun t h => g t (.tail _ h)
    exact ⟨_, .cons (reads_tuple_at (g t (.head _)) rfl rfl (.cons (.int _ _) (.cons (.int _ _) (.cons (.int _ _) .nil)))) hr⟩
theorem ne_trs_nil {h₀ : Heap} {L : Addr} {news : List (Addr × Obj)} {ts : List Tr} {k : Nat} (N : News h₀ L s.heap news) (ha : (a, listOf (ts.map Tr.ref).toArray k) ∈ news) (hts : ∀ t ∈ ts, t.ent ∈ news) (hb : s.heap.IsList b #[]) (hu : A.units + 64 < cLine) (h : Q (.bool (decide (ts ≠ []))) s) :
    wpAny (model prog w) A (compareOp .NotEq (.ref a) (.ref b)) Q E s := by
  obtain ⟨as, hr⟩ := reads_trs (h := s.heap) fun t ht => (N _ (hts t ht)).1
  have sh : SeqAt.shaped (.list (ts.map trData)) = true := by
    have := depth_trs ts
    unfold SeqAt.shaped
    rw [Bool.and_eq_true, decide_eq_true_eq]
    refine ⟨can_trs ts, ?_⟩
    simp only [PyData.depth]
    omega
  refine ne_dataH (reads_list_at (N _ ha).1 rfl rfl hr) (reads_newData (ys := []) hb .nil) sh rfl hu ?_
  have : (!PyData.eqv (.list (ts.map trData)) (.list [])) = decide (ts ≠ []) := by
    cases ts with
    | nil => rfl
    | cons t r => rfl
  rw [this]; exact h
theorem split_use {h₀ : Heap} {L : Addr} {m : PySem.Str → Option Value} {news : List (Addr × Obj)} {x y : PySem.Str} {t u : Tok} {ws : List PySem.Str} (hF : Fr h₀ L s.heap m) (hN : News h₀ L s.heap news) (he : PySem.Txt.split x y = ws) (hy : (y.length == 0) = false) (hsz : x.length + 2 ≤ sizeLine)
    (h : ∀ D vs h' k, StrsAre vs ws → Fr h₀ L h' m → News h₀ L h' ((D, listOf vs.toArray 0) :: news) → (∀ p ∈ news, p.1 < D) → Q (.ref D) { s with heap := h', toks := k }) :
    wpAny (model prog w) A (call (.builtin "str.split") [.str x t, .str y u]) Q E s :=
  KSpl.split1 hF hN hy (fun D l h' k e hs F N lt => h D _ h' k (by rw [e, he] at hs; exact hs) F N lt) hsz
theorem mid_use {M : Model} {α : Type} {t : Sem α} {Q R : α → Shared → Prop} (h : wpAny M A t R E s) (k : ∀ v s', R v s' → Q v s') : wpAny M A t Q E s := wpAny_mono h k fun _ _ e => e
noncomputable def MidPost (h₀ : Heap) (L : Addr) (m : PySem.Str → Option Value) (news : List (Addr × Obj)) (ws : List PySem.Str) (s : Shared) (v : Value) (s' : Shared) : Prop :=
  ∃ D vs k h' tk, v = .ref D ∧ s' = { s with heap := h', toks := tk } ∧ StrsAre vs ws ∧ Fr h₀ L h' m ∧ News h₀ L h' ((D, listOf (List.toArray vs) k) :: news)
theorem mid_strs {M : Model} {t : Sem Value} {h₀ : Heap} {L : Addr} {m : PySem.Str → Option Value} {news : List (Addr × Obj)} {ws : List PySem.Str} (F : Fr h₀ L s.heap m) (N : News h₀ L s.heap news) (h : wpAny M A t (MidPost h₀ L m news ws s) E s)
    (k : ∀ D vs e h' tk, StrsAre vs ws → Fr h₀ L h' m → News h₀ L h' ((D, listOf (List.toArray vs) e) :: news) → Q (.ref D) { s with heap := h', toks := tk }) : wpAny M A t Q E s :=
  wpAny_mono h (fun v s' ⟨D, vs, e, h', tk, e1, e2, hs, F', N'⟩ => by subst e1; subst e2; exact k D vs e h' tk hs F' N') fun _ _ e => e
theorem words_nil {cs : List Tr} {t : Tok} (h : ¬ cs ≠ []) : StrsAre [.str (PySem.Str.ofString "0x0") t] (wordsOf cs) := by
  unfold wordsOf
  rw [if_pos (Classical.not_not.mp h)]
  exact .cons _ _ .nil
theorem words_cons {cs : List Tr} {ys : List Value} (h : cs ≠ []) (hs : StrsAre ys (cs.map fun t => nameS t.b)) : StrsAre ys (wordsOf cs) := by
  unfold wordsOf
  rw [if_neg h]
  exact hs
theorem MidPost.intro {h₀ : Heap} {L : Addr} {m : PySem.Str → Option Value} {news all : List (Addr × Obj)} {ws : List PySem.Str} {D : Addr} {vs : List Value} {k : Nat} {h' : Heap} {tk : Nat} (hs : StrsAre vs ws) (F : Fr h₀ L h' m) (N : News h₀ L h' all) (hD : (D, listOf (List.toArray vs) k) ∈ all) (hsub : ∀ p ∈ news, p ∈ all) :
    MidPost h₀ L m news ws s (.ref D) { s with heap := h', toks := tk } := ⟨D, vs, k, h', tk, rfl, rfl, hs, F, List.forall_mem_cons.mpr ⟨N _ hD, fun p hp => N p (hsub p hp)⟩⟩
end
end Mine
end
section
namespace Mine
noncomputable def sumP (cs : List Tr) : Int := (cs.map fun t => t.p + 1).sum
noncomputable def textX (n blanks : Int) (cs : List Tr) : Str := PySem.Txt.join (Str.ofString "") (textsOf n cs) ++ PySem.Txt.mul (Str.ofString " ") blanks ++ besideS (n.fdiv 3) ++ Str.ofString "\t"
noncomputable def leadX (n blanks : Int) (cs : List Tr) : Str := cleanS (KStt.codes (textX n blanks cs))
noncomputable def leadR (n blanks : Int) (cs : List Tr) : WS := wsRun ((leadX n blanks cs).cps.toList.takeWhile isWs)
/-- what the law asks of a lead -/
structure LeadOk (ts : List Tr) (n blanks : Int) (i : Nat) : Prop where
  short : (leadX n blanks (pickTo ts i 4)).length ≤ 100
  num : (leadR n blanks (pickTo ts i 4)).n = sumP (pickTo ts i 4) + blanks
  tabs : (leadR n blanks (pickTo ts i 4)).nt = ((pickTo ts i 4).length : Int)
  few : (leadR n blanks (pickTo ts i 4)).cs.length ≤ 100
  cols : ∀ size, 1 ≤ size → size ≤ 4 → indentI size (leadR n blanks (pickTo ts i 4)).cs ((pickTo ts i 4).length : Int) (leadR n blanks (pickTo ts i 4)).b = colI ts blanks size i
section
variable {prog : Program} {w : World} {A : Around} {E : Value → Shared → Prop} {s : Shared} {h₀ : Heap} {L : Addr} {m : Str → Option Value} {Q : Value → Shared → Prop}
noncomputable def leadE (w : World) (ld : Ld) (n nt : Int) : List (Addr × Obj) :=
  [(ld.T, { cls := .type "tuple", data := .seq #[.ref ld.D, .int ld.b ld.tb] }), (ld.D, { cls := .type "tuple", data := .seq ld.us.toArray }), (ld.x, instObj 126 ld.d),
   (ld.d, dictOf [dE w "raw" ld.t1 ld.xv, dE w "n" ld.t2 (.int n ld.tn), dE w "nt" ld.t3 (.int nt ld.tnt), dE w "norm" ld.t4 (.ref ld.T), dE w "is_simple" ld.t5 (.bool ld.sm)] 5)]
theorem lead_ne {ld : Ld} {n nt : Int} {a : Addr} (hobj : ld.objs w = leadE w ld n nt) (q1 : @LT.lt Nat _ a ld.d) (o2 : ld.d < ld.x) (o3 : ld.x < ld.D) (o4 : ld.D < ld.T) : ∀ p ∈ ld.objs w, p.1 ≠ a := by
  intro p hp
  rw [hobj] at hp
  unfold leadE at hp
  simp only [List.mem_cons, List.not_mem_nil, or_false] at hp
  have o2' : @LT.lt Nat _ ld.d ld.x := o2
  have o3' : @LT.lt Nat _ ld.x ld.D := o3
  have o4' : @LT.lt Nat _ ld.D ld.T := o4
  have ne : ∀ k : Addr, @LT.lt Nat _ a k → k ≠ a := fun k h e => by subst e; exact Nat.lt_irrefl _ h
  rcases hp with rfl | rfl | rfl | rfl
  · exact ne ld.T (Nat.lt_trans q1 (Nat.lt_trans o2' (Nat.lt_trans o3' o4')))
  · exact ne ld.D (Nat.lt_trans q1 (Nat.lt_trans o2' o3'))
  · exact ne ld.x (Nat.lt_trans q1 o2')
  · exact ne ld.d q1
theorem ws_use {dp un : Nat} {gd : Option (List Code)} {cn : Str} {nm : List (Str × NameKind)} {ig ic : Bool} {mo : List (Str × Const)} {a : Addr} {ccd : Value} {cl : List (Str × Addr)} {outer : List Env} {A₀ : Around} {base : Heap} {mean : ExcName → Option Value} {mg mb : Str → Option Value} {news : List (Addr × Obj)} {ts : List Tr} {n blanks : Int} {i : Nat} {t : Tok}
    (B : Below A₀ base outer h₀) (F : Fr h₀ L s.heap m) (X : (K w.params).In h₀) (N : News h₀ L s.heap news) (T : Top q (looseW q loose) mean mg mb h₀) (hLO : LeadOk ts n blanks i)
    (hd : dp + 4 * 3 < recursionLimit) (hu : un + 20 * 3 < cLine)
    (ret : ∀ (ld : Ld) (h' : Heap) (tk' : Nat), ldOk ts blanks i ld → ld.objs w = leadE w ld (((pickTo ts i 4).map fun t => t.p + 1).sum + blanks) ((pickTo ts i 4).length : Int) → (∀ p ∈ news, p.1 < ld.d) → ld.d < ld.x → ld.x < ld.D → ld.D < ld.T → Fr h₀ L h' m → News h₀ L h' (leadE w ld (((pickTo ts i 4).map fun t => t.p + 1).sum + blanks) ((pickTo ts i 4).length : Int) ++ news) → Q (.ref ld.x) { s with heap := h', toks := tk' }) :
    wpAny (model PySem.Challenge.rw_sn0070_01.row.prog w) (ktrTop dp un gd cn ⟨.function, nm, ig, ic, mo⟩ L a ccd cl outer) (call (.ref 126) [.str (leadX n blanks (pickTo ts i 4)) t]) Q E s := by
  refine Spec.use B F X N T (ws_spec w _ hLO.short t news) hd hu ?_
  rintro v n' h' tk' ⟨xw, dw, Tw, Dw, usw, smw, t1, t2, t3, t4, t5, tn, tnt, tb, rfl, rfl, hIw, o1, o2, o3, o4⟩ F' N'
  change IntsAre usw (leadR n blanks (pickTo ts i 4)).cs at hIw
  change News _ _ _ (wsObjs w xw dw Tw Dw usw _ (leadR n blanks (pickTo ts i 4)).n (leadR n blanks (pickTo ts i 4)).nt (leadR n blanks (pickTo ts i 4)).b _ _ _ _ _ _ _ _ _ ++ _) at N'
  rw [hLO.num, hLO.tabs] at N'
  exact ret ⟨xw, dw, Tw, Dw, usw, (leadR n blanks (pickTo ts i 4)).cs, _, sumP (pickTo ts i 4) + blanks, ((pickTo ts i 4).length : Int), (leadR n blanks (pickTo ts i 4)).b, smw, t1, t2, t3, t4, t5, tn, tnt, tb⟩ h' tk' ⟨hIw, hLO.few, rfl, hLO.cols⟩ rfl o1 o2 o3 o4 F' N'
theorem lw_append {ll c4 I : Addr} {oI o4 : Obj} {e1 e2 e3 e4 e5 e6 e7 e8 e9 e10 e11 : Addr × Obj} {tl all : List (Addr × Obj)} {i : Nat} {c : LwSt} {ld : Ld} (off : ∀ p ∈ lwLed w ll c4 e1 e2 e3 e4 e5 e6 e7 e8 e9 e10 e11 tl i c, p.1 ≠ I)
    (F : Fr h₀ L s.heap m) (N : News h₀ L s.heap all) (hI : (I, oI) ∈ all) (hL : (ll, listOf (c.lds.map Ld.ref).toArray c.e) ∈ all) (m4 : (c4, o4) ∈ all)
    (m1 : e1 ∈ all) (m2 : e2 ∈ all) (m3 : e3 ∈ all) (m5 : e4 ∈ all) (m6 : e5 ∈ all) (m7 : e6 ∈ all) (m8 : e7 ∈ all) (m9 : e8 ∈ all) (m10 : e9 ∈ all) (m11 : e10 ∈ all) (m12 : e11 ∈ all)
    (mt : ∀ p ∈ tl ++ c.lds.flatMap (Ld.objs w), p ∈ all) (mo : ∀ p ∈ ld.objs w, p ∈ all)
    (n4 : @Ne Nat c4 ll) (n1 : @Ne Nat e1.1 ll) (n2 : @Ne Nat e2.1 ll) (n3 : @Ne Nat e3.1 ll) (n5 : @Ne Nat e4.1 ll) (n6 : @Ne Nat e5.1 ll) (n7 : @Ne Nat e6.1 ll) (n8 : @Ne Nat e7.1 ll) (n9 : @Ne Nat e8.1 ll) (n10 : @Ne Nat e9.1 ll) (n11 : @Ne Nat e10.1 ll) (n12 : @Ne Nat e11.1 ll)
    (hll : ∀ p ∈ tl ++ c.lds.flatMap (Ld.objs w), p.1 ≠ ll) (no : ∀ p ∈ ld.objs w, p.1 ≠ ll) (hz : c.lds.length ≤ 100)
    (h : ∀ h', Fr h₀ L h' m → News h₀ L h' ((I, oI) :: lwLed w ll c4 e1 e2 e3 e4 e5 e6 e7 e8 e9 e10 e11 tl (i + 1) ⟨c.lds ++ [ld], c.e + 1, o4⟩) → Q .none { s with heap := h' }) :
    wpAny (model prog w) A (call (.builtin "list.append") [.ref ll, .ref ld.x]) Q E s := by
  have hIl : I ≠ ll := (off _ (.head _)).symm
  have N' : News h₀ L s.heap ((ll, listOf (c.lds.map Ld.ref).toArray c.e) :: (I, oI) :: (c4, o4) :: e1 :: e2 :: e3 :: e4 :: e5 :: e6 :: e7 :: e8 :: e9 :: e10 :: e11 :: ((tl ++ c.lds.flatMap (Ld.objs w)) ++ ld.objs w)) := by
    intro p hp
    refine N p ?_
    simp only [List.mem_cons] at hp
    rcases hp with h | h | h | h | h | h | h | h | h | h | h | h | h | h | h
    · exact h ▸ hL
    · exact h ▸ hI
    · exact h ▸ m4
    · exact h ▸ m1
    · exact h ▸ m2
    · exact h ▸ m3
    · exact h ▸ m5
    · exact h ▸ m6
    · exact h ▸ m7
    · exact h ▸ m8
    · exact h ▸ m9
    · exact h ▸ m10
    · exact h ▸ m11
    · exact h ▸ m12
    · exact (List.mem_append.mp h).elim (mt p) (mo p)
  have ne : ∀ p ∈ (I, oI) :: (c4, o4) :: e1 :: e2 :: e3 :: e4 :: e5 :: e6 :: e7 :: e8 :: e9 :: e10 :: e11 :: ((tl ++ c.lds.flatMap (Ld.objs w)) ++ ld.objs w), p.1 ≠ ll := by
    intro p hp
    simp only [List.mem_cons] at hp
    rcases hp with h | h | h | h | h | h | h | h | h | h | h | h | h | h
    · exact h ▸ hIl
    · exact h ▸ n4
    · exact h ▸ n1
    · exact h ▸ n2
    · exact h ▸ n3
    · exact h ▸ n5
    · exact h ▸ n6
    · exact h ▸ n7
    · exact h ▸ n8
    · exact h ▸ n9
    · exact h ▸ n10
    · exact h ▸ n11
    · exact h ▸ n12
    · exact (List.mem_append.mp h).elim (hll p) (no p)
  refine append_K F N' (.head ne) ?_ ?_
  · intro h' F' N''
    refine h h' F' ?_
    rw [List.push_toArray] at N''
    intro p hp
    refine N'' p ?_
    unfold lwLed at hp
    simp only [List.map_append, List.map_cons, List.map_nil, List.flatMap_append, List.flatMap_cons, List.flatMap_nil, List.append_nil, List.append_assoc, List.mem_cons, List.mem_append] at hp ⊢
    rcases hp with h | h | h | h | h | h | h | h | h | h | h | h | h | h | h | h | h
    · exact .inr (.inl h)
    · exact .inl h
    · exact .inr (.inr (.inr (.inl h)))
    · exact .inr (.inr (.inr (.inr (.inl h))))
    · exact .inr (.inr (.inr (.inr (.inr (.inl h)))))
    · exact .inr (.inr (.inr (.inr (.inr (.inr (.inl h))))))
    · exact .inr (.inr (.inr (.inr (.inr (.inr (.inr (.inl h)))))))
    · exact .inr (.inr (.inr (.inr (.inr (.inr (.inr (.inr (.inl h))))))))
    · exact .inr (.inr (.inr (.inr (.inr (.inr (.inr (.inr (.inr (.inl h)))))))))
    · exact .inr (.inr (.inr (.inr (.inr (.inr (.inr (.inr (.inr (.inr (.inl h))))))))))
    · exact .inr (.inr (.inl h))
    · exact .inr (.inr (.inr (.inr (.inr (.inr (.inr (.inr (.inr (.inr (.inr (.inl h)))))))))))
    · exact .inr (.inr (.inr (.inr (.inr (.inr (.inr (.inr (.inr (.inr (.inr (.inr (.inl h))))))))))))
    · exact .inr (.inr (.inr (.inr (.inr (.inr (.inr (.inr (.inr (.inr (.inr (.inr (.inr (.inl h)))))))))))))
    · exact .inr (.inr (.inr (.inr (.inr (.inr (.inr (.inr (.inr (.inr (.inr (.inr (.inr (.inr (.inl h))))))))))))))
    · exact .inr (.inr (.inr (.inr (.inr (.inr (.inr (.inr (.inr (.inr (.inr (.inr (.inr (.inr (.inr (.inl h)))))))))))))))
    · exact .inr (.inr (.inr (.inr (.inr (.inr (.inr (.inr (.inr (.inr (.inr (.inr (.inr (.inr (.inr (.inr h)))))))))))))))
  · rw [List.size_toArray, List.length_map, sizeLine_eq]; omega
theorem lw_keep {u m₀ : Str → Option Value} {v1 v2 v3 v4 : Option Value} : ∀ z, z ≠ Str.ofString "choice" → lwStored.contains z = false →
    (fun y => if y = Str.ofString "lead" then v1 else if y = Str.ofString "text" then v2 else if y = Str.ofString "words" then v3 else if y = Str.ofString "chosen" then v4 else (fun y => if y = Str.ofString "choice" then u y else kstB (fun z => if lwStored.contains z = true then u z else m₀ z) [] y) y) z = m₀ z := by
  intro z z1 z2
  have h1 : z ≠ Str.ofString "lead" := by rintro rfl; exact absurd z2 (by decide +kernel)
  have h2 : z ≠ Str.ofString "text" := by rintro rfl; exact absurd z2 (by decide +kernel)
  have h3 : z ≠ Str.ofString "words" := by rintro rfl; exact absurd z2 (by decide +kernel)
  have h4 : z ≠ Str.ofString "chosen" := by rintro rfl; exact absurd z2 (by decide +kernel)
  dsimp only
  rw [if_neg h1, if_neg h2, if_neg h3, if_neg h4, if_neg z1]
  show (if lwStored.contains z = true then u z else m₀ z) = m₀ z
  rw [z2]; rfl
theorem lw_end {ts : List Tr} {blanks : Int} {ll c4 I : Addr} {oI o4 : Obj} {e1 e2 e3 e4 e5 e6 e7 e8 e9 e10 e11 : Addr × Obj} {tl : List (Addr × Obj)} {i : Nat} {c : LwSt} {ld : Ld} {v4 : Option Value} {m₀ m' : Str → Option Value} {s₁ : Shared} {h' : Heap} {tk : Nat} (off : ∀ p ∈ lwLed w ll c4 e1 e2 e3 e4 e5 e6 e7 e8 e9 e10 e11 tl i c, p.1 ≠ I)
    (F : Fr h₀ L h' m') (N : News h₀ L h' ((I, oI) :: lwLed w ll c4 e1 e2 e3 e4 e5 e6 e7 e8 e9 e10 e11 tl (i + 1) ⟨c.lds ++ [ld], c.e + 1, o4⟩)) (hlen : c.lds.length = i) (hok : ∀ j c', c.lds[j]? = some c' → ldOk ts blanks j c') (hld : ldOk ts blanks i ld) (h4 : o4.data = .cell v4)
    (hll : ∀ p ∈ tl ++ c.lds.flatMap (Ld.objs w), p.1 ≠ ll) (no : ∀ p ∈ ld.objs w, p.1 ≠ ll) (nI : ∀ p ∈ ld.objs w, p.1 ≠ I)
    (hr : ∀ z, z ≠ Str.ofString "choice" → lwStored.contains z = false → m' z = m₀ z) :
    TEnd h₀ L (TKN (lwLed w ll c4 e1 e2 e3 e4 e5 e6 e7 e8 e9 e10 e11 tl) lwNames (lwFacts w ts blanks ll tl) (Str.ofString "choice") lwStored m₀ (i + 1)) (I, oI) s₁ { s₁ with heap := h', toks := tk } := by
  refine tkn_end (⟨c.lds ++ [ld], c.e + 1, o4⟩ : LwSt) F N (fun p hp => .tail _ hp) (.head _) ?_ ⟨?_, ?_, ⟨_, h4⟩, ?_⟩ nil_all (fun z z0 _ z1 => hr z z0 z1)
  · intro p hp
    unfold lwLed at hp off
    simp only [List.map_append, List.map_cons, List.map_nil, List.flatMap_append, List.flatMap_cons, List.flatMap_nil, List.append_nil, List.append_assoc, List.mem_cons, List.mem_append] at hp off
    rcases hp with h | h | h | h | h | h | h | h | h | h | h | h | h | h | h | h
    · rw [h]; exact (off _ (.inl rfl) : (ll, _).1 ≠ I)
    · exact off _ (.inr (.inl h))
    · exact off _ (.inr (.inr (.inl h)))
    · exact off _ (.inr (.inr (.inr (.inl h))))
    · exact off _ (.inr (.inr (.inr (.inr (.inl h)))))
    · exact off _ (.inr (.inr (.inr (.inr (.inr (.inl h))))))
    · exact off _ (.inr (.inr (.inr (.inr (.inr (.inr (.inl h)))))))
    · exact off _ (.inr (.inr (.inr (.inr (.inr (.inr (.inr (.inl h))))))))
    · exact off _ (.inr (.inr (.inr (.inr (.inr (.inr (.inr (.inr (.inl h)))))))))
    · rw [h]; exact (off _ (.inr (.inr (.inr (.inr (.inr (.inr (.inr (.inr (.inr (.inl rfl)))))))))) : (c4, _).1 ≠ I)
    · exact off _ (.inr (.inr (.inr (.inr (.inr (.inr (.inr (.inr (.inr (.inr (.inl h)))))))))))
    · exact off _ (.inr (.inr (.inr (.inr (.inr (.inr (.inr (.inr (.inr (.inr (.inr (.inl h))))))))))))
    · exact off _ (.inr (.inr (.inr (.inr (.inr (.inr (.inr (.inr (.inr (.inr (.inr (.inr (.inl h)))))))))))))
    · exact off _ (.inr (.inr (.inr (.inr (.inr (.inr (.inr (.inr (.inr (.inr (.inr (.inr (.inr (.inl h))))))))))))))
    · exact off _ (.inr (.inr (.inr (.inr (.inr (.inr (.inr (.inr (.inr (.inr (.inr (.inr (.inr (.inr h))))))))))))))
    · exact nI p h
  · show (c.lds ++ [ld]).length = i + 1
    rw [List.length_append, hlen]; rfl
  · intro j c' hj
    rcases Nat.lt_trichotomy j i with h | h | h
    · refine hok j c' ?_
      have : (c.lds ++ [ld])[j]? = c.lds[j]? := List.getElem?_append_left (by omega)
      exact this ▸ hj
    · subst h
      have : (c.lds ++ [ld])[j]? = some ld := by rw [List.getElem?_append_right (by omega)]; simp [hlen]
      have e := this.symm.trans hj
      cases e
      exact hld
    · have : (c.lds ++ [ld])[j]? = none := List.getElem?_eq_none (by rw [List.length_append, hlen]; simp; omega)
      have e := this.symm.trans hj
      cases e
  · intro p hp
    simp only [List.flatMap_append, List.flatMap_cons, List.flatMap_nil, List.append_nil, List.mem_append] at hp
    rcases hp with h | h | h
    · exact hll p (List.mem_append_left _ h)
    · exact hll p (List.mem_append_right _ h)
    · exact no p h
end
end Mine
end
section
namespace Mine
theorem indent_specU (w : World) (ld : Ld) (hI : IntsAre ld.us ld.cs) (hc : ld.cs.length ≤ 100) (size : Int) (ts : Tok) (h1 : 1 ≤ size) (h4 : size ≤ 4) (news : List (Addr × Obj)) (hsub : ∀ p ∈ ld.objs w, p ∈ news) :
    Spec 2 w (.ref 95) [.ref ld.x, .int size ts] [] news (fun v news' => (∃ t, v = .int (indentI size ld.cs ld.nt ld.b) t) ∧ news' = news) := by
  refine Spec.frame (indent_spec w ld.x ld.d ld.T ld.D ld.us ld.cs hI hc ld.xv ld.n ld.nt ld.b ld.sm ld.t1 ld.t2 ld.t3 ld.t4 ld.t5 ld.tn ld.tnt ld.tb size ts h1 h4 news) ?_ ?_
  · intro p hp
    exact (List.mem_append.mp (show p ∈ ld.objs w ++ news from hp)).elim (hsub p) id
  · rintro v n' ⟨h, rfl⟩
    exact ⟨news, ⟨h, rfl⟩, fun p hp => List.mem_append_right (ld.objs w) hp⟩
theorem ints_at2 {ys : List Value} {xs : List Int} (h : IntsAre ys xs) : ∀ {j : Nat} {c : Int}, xs[j]? = some c → ∃ t, ys[j]? = some (.int c t) := by
  induction h with
  | nil => intro j c h; cases h
  | cons x t _ ih =>
    intro j c h
    cases j with
    | zero => cases h; exact ⟨t, rfl⟩
    | succ j => exact ih h
theorem ints_snoc {ys : List Value} {f : Nat → Int} {j : Nat} {u : Tok} (h : IntsAre ys ((List.range j).map f)) {c : Int} (hc : c = f j) : IntsAre (ys ++ [.int c u]) ((List.range (j + 1)).map f) := by
  rw [List.range_succ, List.map_append, hc]
  exact IntsAre.append h (.cons _ _ .nil)
theorem fr_gen {h₀ h : Heap} {L : Addr} {m : Str → Option Value} (F : Fr h₀ L h m) : ∃ mm, mm = m ∧ Fr h₀ L h mm := ⟨m, rfl, F⟩
theorem four_of {α : Type} {l : List α} (h : l.length = 4) : ∃ a b c d, l = [a, b, c, d] := by
  match l, h with
  | [a, b, c, d], _ => exact ⟨a, b, c, d, rfl⟩
noncomputable def dueTo (size : Int) (ts : List Tr) : Int := ts.foldl (fun d t => d * size * (t.p.fdiv size + 1)) 24
noncomputable def colsI (ts : List Tr) (blanks size : Int) : List Int := (List.range 16).map (colI ts blanks size)
noncomputable def toldF (ts : List Tr) (blanks size pw : Int) (k : Nat) : Int := colI ts blanks size k ^ pw.toNat * (1 - ((pick ts k).length : Int).fmod 2 * 2)
noncomputable def toldI (ts : List Tr) (blanks size pw : Int) : Int := ((List.range 16).map (toldF ts blanks size pw)).sum
structure SzSt where
  o5 : Obj
  o6 : Obj
  o7 : Obj
noncomputable def isCell (o : Obj) : Prop := ∃ v, o.data = .cell v
noncomputable def szLed (a5 a6 a7 : Addr) (rest : List (Addr × Obj)) (_ : Nat) (c : SzSt) : List (Addr × Obj) := (a5, c.o5) :: (a6, c.o6) :: (a7, c.o7) :: rest
noncomputable def szFacts (_ : Nat) (c : SzSt) : Prop := isCell c.o5 ∧ isCell c.o6 ∧ isCell c.o7
noncomputable def szStored : List Str := [Str.ofString "due", Str.ofString "bit", Str.ofString "pile", Str.ofString "seed", Str.ofString "told", Str.ofString "power"]
noncomputable def pwLed (a7 : Addr) (rest : List (Addr × Obj)) (_ : Nat) (c : Obj) : List (Addr × Obj) := (a7, c) :: rest
noncomputable def pwNames (_ : Nat) (_ : Obj) : List (Str × Value) := []
noncomputable def szNames (_ : Nat) (_ : SzSt) : List (Str × Value) := []
noncomputable def pwFacts (_ : Nat) (c : Obj) : Prop := isCell c
noncomputable def duLed (base : List (Addr × Obj)) (_ : Nat) (_ : Tok) : List (Addr × Obj) := base
noncomputable def duNames (size : Int) (ts : List Tr) (i : Nat) (c : Tok) : List (Str × Value) := [(Str.ofString "due", .int (dueTo size (ts.take i)) c)]
noncomputable def duFacts (_ : Nat) (_ : Tok) : Prop := True
section
variable {prog : Program} {w : World} {A : Around} {E : Value → Shared → Prop} {s : Shared} {env : Env} {h₀ : Heap} {target : Expr} {body orelse : List Stmt} {Q : Flow → Shared → Prop}
theorem col_item {value slice : Expr} {D : Addr} {L : Addr} {ys : List Value} {xs : List Int} {k c : Int} {u : Tok} {news : List (Addr × Obj)} {Q : Value → Shared → Prop} (N : News h₀ L s.heap news) (hm : (D, LCg.lst ys) ∈ news) (hI : IntsAre ys xs) (hk : 0 ≤ k) (hk2 : k < 16) (hx : xs[k.toNat]? = some c) (h : ∀ t, Q (.int c t) s)
    (hs : subscripted slice false (.ref D) (.int k u) = operate [.ref D, .int k u] (getItem (.ref D) (.int k u)) := by with_unfolding_all rfl) (hg : ∀ r, letTemporaryGo value (.ref D) r = pure () := by intro _; with_unfolding_all rfl) :
    wpAny (model prog w) A (subscriptTail value slice (.ref D) (.int k u)) Q E s := by
  obtain ⟨t, ht⟩ := ints_at2 hI hx
  exact PyProof.Rows.item_list (items := ys.toArray) (News.isList N hm) hk (by omega) (x := .int c t) (by simpa using ht) (h t) hs hg
theorem lead_item {value slice : Expr} {ll : Addr} {L : Addr} {lds : List Ld} {e : Nat} {k : Int} {u : Tok} {x : Ld} {news : List (Addr × Obj)} {Q : Value → Shared → Prop} (N : News h₀ L s.heap news) (hm : (ll, listOf (lds.map Ld.ref).toArray e) ∈ news) (hk : 0 ≤ k) (hk2 : k < 16) (hx : lds[k.toNat]? = some x) (h : Q (.ref x.x) s)
    (hs : subscripted slice false (.ref ll) (.int k u) = operate [.ref ll, .int k u] (getItem (.ref ll) (.int k u)) := by with_unfolding_all rfl) (hg : ∀ r, letTemporaryGo value (.ref ll) r = pure () := by intro _; with_unfolding_all rfl) :
    wpAny (model prog w) A (subscriptTail value slice (.ref ll) (.int k u)) Q E s :=
  PyProof.Rows.item_list (items := (lds.map Ld.ref).toArray) ⟨_, (N _ hm).1, rfl, _, rfl⟩ hk (by omega) (x := .ref x.x) (by simp [hx, Ld.ref]) h hs hg
theorem sz_loop {a5 a6 a7 : Addr} {o5 o6 o7 : Obj} {v5 v6 v7 : Option Value} {rest : List (Addr × Obj)} {px : Pos} {r : Addr} {t u v : Tok} {m₀ : Str → Option Value}
    (hh : A.handled = none) (hr : IsRange s.heap r 1 5 1 t u v) (F : Fr h₀ env.locals s.heap m₀) (N : News h₀ env.locals s.heap ((a5, o5) :: (a6, o6) :: (a7, o7) :: rest)) (h5 : o5.data = .cell v5) (h6 : o6.data = .cell v6) (h7 : o7.data = .cell v7)
    (turn : ∀ (c : SzSt) (i : Nat) (size : Int) (t : Tok) (I : Addr) (oI : Obj) (u : Str → Option Value) h tk v5 v6 v7, 1 ≤ size → size ≤ 4 → c.o5.data = .cell v5 → c.o6.data = .cell v6 → c.o7.data = .cell v7 → (∀ p ∈ szLed a5 a6 a7 rest i c, p.1 ≠ I) →
      Fr h₀ env.locals h (fun y => if y = Str.ofString "size" then u y else kstB (fun z => if szStored.contains z then u z else m₀ z) [] y) → News h₀ env.locals h ((I, oI) :: (a5, c.o5) :: (a6, c.o6) :: (a7, c.o7) :: rest) →
      ∀ QT : Flow → Shared → Prop, (∀ s₂, TEnd h₀ env.locals (TKN (szLed a5 a6 a7 rest) szNames szFacts (Str.ofString "size") szStored m₀ (i + 1)) (I, oI) { s with heap := h, toks := tk } s₂ → QT .next s₂) →
      wpAny (model prog w) A (assign (.Name (Str.ofString "size") px) env (.int size t)) (fun _ s₂ => wpAny (model prog w) A (execs body env) QT E s₂) E { s with heap := h, toks := tk })
    (done : ∀ (c : SzSt) (u : Str → Option Value) h tk, Fr h₀ env.locals h (fun y => if y = Str.ofString "size" then u y else kstB (fun z => if szStored.contains z then u z else m₀ z) [] y) → News h₀ env.locals h ((a5, c.o5) :: (a6, c.o6) :: (a7, c.o7) :: rest) →
      wpAny (model prog w) A (execs orelse env) Q E { s with heap := h, toks := tk })
    (hE : PassesOwn (model prog w) A env E := by passes_own) :
    wpAny (model prog w) A (pyIter (.ref r)) (fun it s₂ => MyLoop prog w A (.Name (Str.ofString "size") px) body orelse env Q E it s₂) E s := by
  refine range_loopK (n := 4) (szLed a5 a6 a7 rest) szNames szFacts szStored ⟨o5, o6, o7⟩ hh hr (by decide) rfl F N ⟨⟨_, h5⟩, ⟨_, h6⟩, ⟨_, h7⟩⟩ nil_all ?_ ?_ hE
  · intro c i t I oI u h tk hi hf off F N
    obtain ⟨⟨v5, f5⟩, ⟨v6, f6⟩, ⟨v7, f7⟩⟩ := hf
    exact turn c i (1 + (i : Int)) t I oI u h tk v5 v6 v7 (by omega) (by omega) f5 f6 f7 off F N _ (fun _ h => h)
  · intro c u h tk _ F N
    exact done c u h tk F N
theorem pw_loop {a7 : Addr} {o7 : Obj} {v7 : Option Value} {rest : List (Addr × Obj)} {px : Pos} {r : Addr} {t u v : Tok} {m₀ : Str → Option Value}
    (hh : A.handled = none) (hr : IsRange s.heap r 1 5 1 t u v) (F : Fr h₀ env.locals s.heap m₀) (N : News h₀ env.locals s.heap ((a7, o7) :: rest)) (h7 : o7.data = .cell v7)
    (turn : ∀ (c : Obj) (i : Nat) (pw : Int) (t : Tok) (I : Addr) (oI : Obj) (u : Str → Option Value) h tk v7, 1 ≤ pw → pw ≤ 4 → c.data = .cell v7 → (∀ p ∈ pwLed a7 rest i c, p.1 ≠ I) →
      Fr h₀ env.locals h (fun y => if y = Str.ofString "power" then u y else kstB (fun z => if [Str.ofString "told"].contains z then u z else m₀ z) [] y) → News h₀ env.locals h ((I, oI) :: (a7, c) :: rest) →
      ∀ QT : Flow → Shared → Prop, (∀ s₂, TEnd h₀ env.locals (TKN (pwLed a7 rest) pwNames pwFacts (Str.ofString "power") [Str.ofString "told"] m₀ (i + 1)) (I, oI) { s with heap := h, toks := tk } s₂ → QT .next s₂) →
      wpAny (model prog w) A (assign (.Name (Str.ofString "power") px) env (.int pw t)) (fun _ s₂ => wpAny (model prog w) A (execs body env) QT E s₂) E { s with heap := h, toks := tk })
    (done : ∀ (c : Obj) (u : Str → Option Value) h tk v7, c.data = .cell v7 → Fr h₀ env.locals h (fun y => if y = Str.ofString "power" then u y else kstB (fun z => if [Str.ofString "told"].contains z then u z else m₀ z) [] y) → News h₀ env.locals h ((a7, c) :: rest) →
      wpAny (model prog w) A (execs orelse env) Q E { s with heap := h, toks := tk })
    (hE : PassesOwn (model prog w) A env E := by passes_own) :
    wpAny (model prog w) A (pyIter (.ref r)) (fun it s₂ => MyLoop prog w A (.Name (Str.ofString "power") px) body orelse env Q E it s₂) E s := by
  refine range_loopK (n := 4) (pwLed a7 rest) pwNames pwFacts [Str.ofString "told"] o7 hh hr (by decide) rfl F N ⟨_, h7⟩ nil_all ?_ ?_ hE
  · intro c i t I oI u h tk hi hf off F N
    obtain ⟨v7, f7⟩ := hf
    exact turn c i (1 + (i : Int)) t I oI u h tk v7 (by omega) (by omega) f7 off F N _ (fun _ h => h)
  · intro c u h tk hf F N
    obtain ⟨v7, f7⟩ := hf
    exact done c u h tk v7 f7 F N
theorem due_bounds {size : Int} (h1 : 1 ≤ size) (h4 : size ≤ 4) : ∀ (ts : List Tr) (d : Int), (∀ t ∈ ts, trOk t) → 0 ≤ d → 0 ≤ ts.foldl (fun d t => d * size * (t.p.fdiv size + 1)) d
  | [], _, _, h => h
  | t :: r, d, ht, h => by
    obtain ⟨-, -, q1, -, -, -⟩ := ht t (.head _)
    have q2 : 0 ≤ t.p.fdiv size := Int.fdiv_nonneg q1 (by omega)
    exact due_bounds h1 h4 r _ (fun x hx => ht x (.tail _ hx)) (Int.mul_nonneg (Int.mul_nonneg h (by omega)) (by omega))
theorem pile_div {size : Int} (h1 : 1 ≤ size) {t : Tr} (ht : trOk t) : 0 ≤ t.p.fdiv size ∧ t.p.fdiv size ≤ 5 := by
  obtain ⟨-, -, q1, q2, -, -⟩ := ht
  have e := Int.fdiv_eq_ediv_of_nonneg t.p (show 0 ≤ size by omega)
  have e1 : 0 ≤ t.p / size := Int.ediv_nonneg (by omega) (by omega)
  have e2 : t.p / size ≤ t.p := Int.ediv_le_self _ (by omega)
  omega
theorem du_loop {S : Addr} {ts : List Tr} {k : Nat} {size : Int} {d : Tok} {base : List (Addr × Obj)} {m₀ : Str → Option Value}
    (hh : A.handled = none) (hS : (S, listOf (ts.map Tr.ref).toArray k) ∈ base) (hts : ∀ t ∈ ts, t.ent ∈ base) (F : Fr h₀ env.locals s.heap m₀) (N : News h₀ env.locals s.heap base) (hd : m₀ (Str.ofString "due") = some (.int 24 d))
    (turn : ∀ (c : Tok) (i : Nat) (t : Tr) (D : Int) (I : Addr) (oI : Obj) (u : Str → Option Value) h tk, ts[i]? = some t → t ∈ ts → D = dueTo size (ts.take i) → (∀ p ∈ duLed base i c, p.1 ≠ I) →
      Fr h₀ env.locals h (fun y => if y = Str.ofString "bit" then u y else kstB (fun z => if [Str.ofString "pile", Str.ofString "seed"].contains z then u z else m₀ z) [(Str.ofString "due", .int D c)] y) → News h₀ env.locals h ((I, oI) :: (t.a, { cls := .type "tuple", data := .seq #[.int t.b t.tb, .int t.p t.tp, .int t.s t.ts] }) :: base) →
      ∀ QT : Flow → Shared → Prop, (∀ s₂, TEnd h₀ env.locals (TKN (duLed base) (duNames size ts) duFacts (Str.ofString "bit") [Str.ofString "pile", Str.ofString "seed"] m₀ (i + 1)) (I, oI) { s with heap := h, toks := tk } s₂ → QT .next s₂) →
      wpAny (model prog w) A (assign target env (.ref t.a)) (fun _ s₂ => wpAny (model prog w) A (execs body env) QT E s₂) E { s with heap := h, toks := tk })
    (done : ∀ (c : Tok) (u : Str → Option Value) h tk, Fr h₀ env.locals h (fun y => if y = Str.ofString "bit" then u y else kstB (fun z => if [Str.ofString "pile", Str.ofString "seed"].contains z then u z else m₀ z) [(Str.ofString "due", .int (dueTo size ts) c)] y) → News h₀ env.locals h base →
      wpAny (model prog w) A (execs orelse env) Q E { s with heap := h, toks := tk })
    (hE : PassesOwn (model prog w) A env E := by passes_own) :
    wpAny (model prog w) A (pyIter (.ref S)) (fun it s₂ => MyLoop prog w A target body orelse env Q E it s₂) E s := by
  refine list_loopK (its := (ts.map Tr.ref).toArray) (k := k) (Str.ofString "bit") (duLed base) (duNames size ts) duFacts [Str.ofString "pile", Str.ofString "seed"] d hh (fun i c _ => hS) F N trivial (List.forall_mem_cons.mpr ⟨hd, nil_all⟩) ?_ ?_ hE
  · intro c i v I oI u h tk hv _ off F' N'
    have hv' : (ts.map Tr.ref)[i]? = some v := by simpa using hv
    rw [List.getElem?_map] at hv'
    obtain ⟨t, ht, rfl⟩ := Option.map_eq_some_iff.mp hv'
    have hm : t ∈ ts := List.mem_of_getElem? ht
    refine turn c i t _ I oI u h tk ht hm rfl off F' ?_ _ (fun _ h => h)
    exact List.forall_mem_cons.mpr ⟨N' _ (.head _), List.forall_mem_cons.mpr ⟨N' t.ent (.tail _ (hts t hm)), fun p hp => N' p (.tail _ hp)⟩⟩
  · intro c u h tk _ F' N'
    refine done c u h tk ?_ N'
    unfold duNames at F'
    rw [List.size_toArray, List.length_map, List.take_length] at F'
    exact F'
theorem due_succ {size : Int} {ts : List Tr} {i : Nat} {t : Tr} (ht : ts[i]? = some t) : dueTo size (ts.take (i + 1)) = dueTo size (ts.take i) * size * (t.p.fdiv size + 1) := by
  unfold dueTo
  rw [List.take_add_one, ht, List.foldl_append]
  rfl
theorem sz_perm {h : Heap} {L : Addr} {e0 e1 e2 e3 e4 e5 e6 e7 e8 e9 e10 e11 e12 : Addr × Obj} {tl : List (Addr × Obj)} (N : News h₀ L h (e0 :: e1 :: e2 :: e3 :: e4 :: e5 :: e6 :: e7 :: e8 :: e9 :: e10 :: e11 :: e12 :: tl)) :
    News h₀ L h (e8 :: e7 :: e6 :: e0 :: e1 :: e2 :: e3 :: e4 :: e5 :: e9 :: e10 :: e11 :: e12 :: tl) :=
  List.forall_mem_cons.mpr ⟨N _ (.tail _ (.tail _ (.tail _ (.tail _ (.tail _ (.tail _ (.tail _ (.tail _ (.head _))))))))), List.forall_mem_cons.mpr ⟨N _ (.tail _ (.tail _ (.tail _ (.tail _ (.tail _ (.tail _ (.tail _ (.head _)))))))), List.forall_mem_cons.mpr ⟨N _ (.tail _ (.tail _ (.tail _ (.tail _ (.tail _ (.tail _ (.head _))))))), List.forall_mem_cons.mpr ⟨N _ (.head _), List.forall_mem_cons.mpr ⟨N _ (.tail _ (.head _)), List.forall_mem_cons.mpr ⟨N _ (.tail _ (.tail _ (.head _))), List.forall_mem_cons.mpr ⟨N _ (.tail _ (.tail _ (.tail _ (.head _)))), List.forall_mem_cons.mpr ⟨N _ (.tail _ (.tail _ (.tail _ (.tail _ (.head _))))), List.forall_mem_cons.mpr ⟨N _ (.tail _ (.tail _ (.tail _ (.tail _ (.tail _ (.head _)))))), List.forall_mem_cons.mpr ⟨N _ (.tail _ (.tail _ (.tail _ (.tail _ (.tail _ (.tail _ (.tail _ (.tail _ (.tail _ (.head _)))))))))), List.forall_mem_cons.mpr ⟨N _ (.tail _ (.tail _ (.tail _ (.tail _ (.tail _ (.tail _ (.tail _ (.tail _ (.tail _ (.tail _ (.head _))))))))))), List.forall_mem_cons.mpr ⟨N _ (.tail _ (.tail _ (.tail _ (.tail _ (.tail _ (.tail _ (.tail _ (.tail _ (.tail _ (.tail _ (.tail _ (.head _)))))))))))), List.forall_mem_cons.mpr ⟨N _ (.tail _ (.tail _ (.tail _ (.tail _ (.tail _ (.tail _ (.tail _ (.tail _ (.tail _ (.tail _ (.tail _ (.tail _ (.head _))))))))))))), fun p hp => N p (.tail _ (.tail _ (.tail _ (.tail _ (.tail _ (.tail _ (.tail _ (.tail _ (.tail _ (.tail _ (.tail _ (.tail _ (.tail _ (hp))))))))))))))⟩⟩⟩⟩⟩⟩⟩⟩⟩⟩⟩⟩⟩
theorem ld_front {h : Heap} {L : Addr} {news : List (Addr × Obj)} {lds : List Ld} {ld : Ld} {j : Nat} (N : News h₀ L h news) (hm : ∀ p ∈ lds.flatMap (Ld.objs w), p ∈ news) (hl : lds[j]? = some ld) :
    News h₀ L h ((ld.T, { cls := .type "tuple", data := .seq #[.ref ld.D, .int ld.b ld.tb] }) :: (ld.D, { cls := .type "tuple", data := .seq ld.us.toArray }) :: (ld.x, instObj 126 ld.d) ::
      (ld.d, dictOf [dE w "raw" ld.t1 ld.xv, dE w "n" ld.t2 (.int ld.n ld.tn), dE w "nt" ld.t3 (.int ld.nt ld.tnt), dE w "norm" ld.t4 (.ref ld.T), dE w "is_simple" ld.t5 (.bool ld.sm)] 5) :: news) :=
  fun p hp => (List.mem_append.mp (show p ∈ ld.objs w ++ news from hp)).elim (fun q => N p (hm p (List.mem_flatMap.mpr ⟨ld, List.mem_of_getElem? hl, q⟩))) (N p)
theorem lds_at {lds : List Ld} {j : Nat} {v : Value} (hv : (lds.map Ld.ref).toArray[j]? = some v) : ∃ ld, lds[j]? = some ld ∧ v = .ref ld.x := by
  have hv' : (lds.map Ld.ref)[j]? = some v := by simpa using hv
  rw [List.getElem?_map] at hv'
  obtain ⟨t, ht, rfl⟩ := Option.map_eq_some_iff.mp hv'
  exact ⟨t, ht, rfl⟩
theorem du_end {L : Addr} {ts : List Tr} {size D : Int} {i : Nat} {t : Tr} {c c' : Tok} {I : Addr} {oI : Obj} {base all : List (Addr × Obj)} {m₀ m1 : Str → Option Value} {s₁ : Shared} {h' : Heap} {tk : Nat} (ht : ts[i]? = some t) (hD : D = dueTo size (ts.take i))
    (F : Fr h₀ L h' (fun y => if y = Str.ofString "due" then some (.int (D * size * (t.p.fdiv size + 1)) c') else m1 y)) (N : News h₀ L h' all) (hsub : ∀ p ∈ base, p ∈ all) (hown : (I, oI) ∈ all) (off : ∀ p ∈ duLed base i c, p.1 ≠ I)
    (hr : ∀ z, z ≠ Str.ofString "bit" → z ≠ Str.ofString "due" → [Str.ofString "pile", Str.ofString "seed"].contains z = false → m1 z = m₀ z) :
    TEnd h₀ L (TKN (duLed base) (duNames size ts) duFacts (Str.ofString "bit") [Str.ofString "pile", Str.ofString "seed"] m₀ (i + 1)) (I, oI) s₁ { s₁ with heap := h', toks := tk } :=
  tkn_end c' F N hsub hown off trivial (List.forall_mem_cons.mpr ⟨by rw [due_succ ht, ← hD]; exact if_pos rfl, nil_all⟩) fun z z1 z2 z3 => by
    have h2 : z ≠ Str.ofString "due" := z2 _ (.head _)
    rw [if_neg h2]
    exact hr z z1 h2 z3
theorem du_keep {u m₀ : Str → Option Value} {v1 v2 v3 : Option Value} {x : Value} : ∀ z, z ≠ Str.ofString "bit" → z ≠ Str.ofString "due" → [Str.ofString "pile", Str.ofString "seed"].contains z = false →
    (fun y => if y = Str.ofString "seed" then v1 else if y = Str.ofString "pile" then v2 else if y = Str.ofString "bit" then v3 else (fun y => if y = Str.ofString "bit" then u y else kstB (fun z => if [Str.ofString "pile", Str.ofString "seed"].contains z = true then u z else m₀ z) [(Str.ofString "due", x)] y) y) z = m₀ z := by
  intro z z1 z2 z3
  have h1 : z ≠ Str.ofString "seed" := by rintro rfl; exact absurd z3 (by decide +kernel)
  have h2 : z ≠ Str.ofString "pile" := by rintro rfl; exact absurd z3 (by decide +kernel)
  dsimp only
  rw [if_neg h1, if_neg h2, if_neg z1, if_neg z1]
  show (if z = Str.ofString "due" then some x else if [Str.ofString "pile", Str.ofString "seed"].contains z = true then u z else m₀ z) = m₀ z
  rw [if_neg z2, z3]; rfl
theorem pw_perm {h : Heap} {L : Addr} {e0 e1 e2 e3 e4 : Addr × Obj} {tl : List (Addr × Obj)} (N : News h₀ L h (e0 :: e1 :: e2 :: e3 :: e4 :: tl)) : News h₀ L h (e4 :: e0 :: e1 :: e2 :: e3 :: tl) := by
  intro p hp
  refine N p ?_
  simp only [List.mem_cons] at hp ⊢
  rcases hp with h | h | h | h | h | h <;> simp [h]
theorem pw_end {L : Addr} {i : Nat} {a7 : Addr} {c c' : Obj} {v7 : Option Value} {I : Addr} {oI : Obj} {rest all : List (Addr × Obj)} {m₀ m' : Str → Option Value} {s₁ : Shared} {h' : Heap} {tk : Nat}
    (F : Fr h₀ L h' m') (N : News h₀ L h' all) (hm : (a7, c') ∈ all) (h7 : c'.data = .cell v7) (hsub : ∀ p ∈ rest, p ∈ all) (hown : (I, oI) ∈ all) (off : ∀ p ∈ pwLed a7 rest i c, p.1 ≠ I)
    (hr : ∀ z, z ≠ Str.ofString "power" → [Str.ofString "told"].contains z = false → m' z = m₀ z) :
    TEnd h₀ L (TKN (pwLed a7 rest) pwNames pwFacts (Str.ofString "power") [Str.ofString "told"] m₀ (i + 1)) (I, oI) s₁ { s₁ with heap := h', toks := tk } :=
  tkn_end c' F N (List.forall_mem_cons.mpr ⟨hm, hsub⟩) hown (List.forall_mem_cons.mpr ⟨off (a7, c) (.head _), fun p hp => off p (.tail _ hp)⟩) ⟨_, h7⟩ nil_all fun z z1 _ z3 => hr z z1 z3
theorem pw_keep {u m₀ : Str → Option Value} {v1 : Option Value} : ∀ z, z ≠ Str.ofString "power" → [Str.ofString "told"].contains z = false →
    (fun y => if y = Str.ofString "told" then v1 else (fun y => if y = Str.ofString "power" then u y else kstB (fun z => if [Str.ofString "told"].contains z = true then u z else m₀ z) [] y) y) z = m₀ z := by
  intro z z1 z3
  have h1 : z ≠ Str.ofString "told" := by rintro rfl; exact absurd z3 (by decide +kernel)
  dsimp only
  rw [if_neg h1, if_neg z1]
  show (if [Str.ofString "told"].contains z = true then u z else m₀ z) = m₀ z
  rw [z3]; rfl
theorem sz_end {L : Addr} {i : Nat} {a5 a6 a7 : Addr} {c : SzSt} {o5 o6 o7 : Obj} {v5 v6 v7 : Option Value} {I : Addr} {oI : Obj} {rest all : List (Addr × Obj)} {m₀ m' : Str → Option Value} {s₁ : Shared} {h' : Heap} {tk : Nat}
    (F : Fr h₀ L h' m') (N : News h₀ L h' all) (m5 : (a5, o5) ∈ all) (m6 : (a6, o6) ∈ all) (m7 : (a7, o7) ∈ all) (h5 : o5.data = .cell v5) (h6 : o6.data = .cell v6) (h7 : o7.data = .cell v7) (hsub : ∀ p ∈ rest, p ∈ all) (hown : (I, oI) ∈ all) (off : ∀ p ∈ szLed a5 a6 a7 rest i c, p.1 ≠ I)
    (hr : ∀ z, z ≠ Str.ofString "size" → szStored.contains z = false → m' z = m₀ z) :
    TEnd h₀ L (TKN (szLed a5 a6 a7 rest) szNames szFacts (Str.ofString "size") szStored m₀ (i + 1)) (I, oI) s₁ { s₁ with heap := h', toks := tk } :=
  tkn_end ⟨o5, o6, o7⟩ F N (List.forall_mem_cons.mpr ⟨m5, List.forall_mem_cons.mpr ⟨m6, List.forall_mem_cons.mpr ⟨m7, hsub⟩⟩⟩) hown
    (List.forall_mem_cons.mpr ⟨off (a5, c.o5) (.head _), List.forall_mem_cons.mpr ⟨off (a6, c.o6) (.tail _ (.head _)), List.forall_mem_cons.mpr ⟨off (a7, c.o7) (.tail _ (.tail _ (.head _))), fun p hp => off p (.tail _ (.tail _ (.tail _ hp)))⟩⟩⟩) ⟨⟨_, h5⟩, ⟨_, h6⟩, ⟨_, h7⟩⟩ nil_all fun z z1 _ z3 => hr z z1 z3
theorem sz_keep {u u2 u3 m₀ : Str → Option Value} {v1 : Option Value} {x : Value} : ∀ z, z ≠ Str.ofString "size" → szStored.contains z = false →
    (fun y => if y = Str.ofString "power" then u3 y else kstB (fun z => if [Str.ofString "told"].contains z = true then u3 z else (fun y => if y = Str.ofString "bit" then u2 y else kstB (fun z => if [Str.ofString "pile", Str.ofString "seed"].contains z = true then u2 z else
      (fun y => if y = Str.ofString "due" then v1 else (fun y => if y = Str.ofString "size" then u y else kstB (fun z => if szStored.contains z = true then u z else m₀ z) [] y) y) z) [(Str.ofString "due", x)] y) z) [] y) z = m₀ z := by
  intro z z1 z3
  have h1 : z ≠ Str.ofString "told" := by rintro rfl; exact absurd z3 (by decide +kernel)
  have h2 : z ≠ Str.ofString "power" := by rintro rfl; exact absurd z3 (by decide +kernel)
  have h3 : z ≠ Str.ofString "bit" := by rintro rfl; exact absurd z3 (by decide +kernel)
  have h4 : z ≠ Str.ofString "pile" := by rintro rfl; exact absurd z3 (by decide +kernel)
  have h5 : z ≠ Str.ofString "seed" := by rintro rfl; exact absurd z3 (by decide +kernel)
  have h6 : z ≠ Str.ofString "due" := by rintro rfl; exact absurd z3 (by decide +kernel)
  have g1 : [Str.ofString "told"].contains z = false := by simp [h1]
  have g2 : [Str.ofString "pile", Str.ofString "seed"].contains z = false := by simp [h4, h5]
  show (if z = Str.ofString "power" then u3 z else if [Str.ofString "told"].contains z = true then u3 z else if z = Str.ofString "bit" then u2 z else if z = Str.ofString "due" then some x else if [Str.ofString "pile", Str.ofString "seed"].contains z = true then u2 z else
    if z = Str.ofString "due" then v1 else if z = Str.ofString "size" then u z else if szStored.contains z = true then u z else m₀ z) = m₀ z
  rw [if_neg h2, g1, if_neg h3, if_neg h6, g2, if_neg h6, if_neg z1, z3]; rfl
theorem cols_at {ts : List Tr} {blanks size : Int} {j : Nat} (hj : j < 16) : (colsI ts blanks size)[(0 + (j : Int)).toNat]? = some (colI ts blanks size j) := by
  have e : (0 + (j : Int)).toNat = j := by omega
  rw [e]
  unfold colsI
  rw [List.getElem?_map, List.getElem?_range hj]; rfl
theorem cols_zero {ts : List Tr} {blanks size : Int} : (colsI ts blanks size)[(0 : Int).toNat]? = some blanks := by
  show (colsI ts blanks size)[0]? = some blanks
  unfold colsI
  rw [List.getElem?_map, List.getElem?_range (by decide)]
  show some (colI ts blanks size 0) = some blanks
  have : pick ts 0 = [] := rfl
  unfold colI
  rw [this]; simp
theorem col_bound {ts : List Tr} {blanks size : Int} {j : Nat} (ht : ∀ t ∈ ts, trOk t) (h1 : 1 ≤ size) (h4 : size ≤ 4) (hb0 : 0 ≤ blanks) (hb1 : blanks < 3) : 0 ≤ colI ts blanks size j ∧ colI ts blanks size j ≤ 100 := by
  have key : ∀ cs : List Tr, (∀ t ∈ cs, trOk t) → 0 ≤ (cs.map fun t => size * (t.p.fdiv size + 1)).sum ∧ (cs.map fun t => size * (t.p.fdiv size + 1)).sum ≤ 24 * cs.length := by
    intro cs
    induction cs with
    | nil => intro _; exact ⟨Int.le_refl _, Int.le_refl _⟩
    | cons t r ih =>
      intro h
      obtain ⟨i1, i2⟩ := ih fun x hx => h x (.tail _ hx)
      obtain ⟨q1, q2⟩ := pile_div h1 (h t (.head _))
      have e1 : 0 ≤ size * (t.p.fdiv size + 1) := Int.mul_nonneg (by omega) (by omega)
      have e2 : size * (t.p.fdiv size + 1) ≤ 4 * 6 := Int.mul_le_mul h4 (by omega) (by omega) (by omega)
      rw [List.map_cons, List.sum_cons, List.length_cons]
      push_cast
      omega
  obtain ⟨k1, k2⟩ := key (pick ts j) fun t h => ht t (pickTo_sub t h)
  have hl : (pick ts j).length ≤ 4 := pickTo_len
  unfold colI
  omega
end
end Mine
end
section
namespace Mine
open StrLaws Builtin Builtin.Str
theorem at_comma {x : Str} {i : Nat} : At x ⟨#[44, 32]⟩ x.length i ↔ (x.cps.toList.drop i).take 2 = [44, 32] := by
  unfold At
  rw [subAt_eq]
  have e : (⟨#[44, 32]⟩ : Str).length = 2 := rfl
  rw [e]
  constructor
  · intro h
    exact eq_of_beq h.2
  · intro h
    refine ⟨?_, by rw [h]; rfl⟩
    have h2 := congrArg List.length h
    simp at h2
    have : x.cps.toList.length = x.length := by simp [Str.length]
    have h3 : x.length = x.cps.size := rfl
    omega
theorem parts_glue (x : Str) : ∀ (ws : List Str) (a f : Nat) (cuts : List Nat), ws ≠ [] → (∀ y ∈ ws, 44 ∉ y.cps.toList) → x.cps.toList.drop a = (Str.join ⟨#[44, 32]⟩ ws).cps.toList → a ≤ x.length →
    ChainG x ⟨#[44, 32]⟩ x.length a cuts f → (∀ k, f ≤ k → ¬ At x ⟨#[44, 32]⟩ x.length k) → partsFrom x (⟨#[44, 32]⟩ : Str).length a cuts = ws
  | [], _, _, _, h0, _, _, _, _, _ => absurd rfl h0
  | [w], a, f, cuts, _, hw, hx, ha, hG, hn => by
    have hx' : x.cps.toList.drop a = w.cps.toList := hx
    have no : ∀ k, a ≤ k → ¬ At x ⟨#[44, 32]⟩ x.length k := by
      intro k hk hA
      rw [at_comma] at hA
      have e : x.cps.toList.drop k = w.cps.toList.drop (k - a) := by
        rw [← hx', List.drop_drop]; congr 1; omega
      rw [e] at hA
      refine hw w (.head _) ?_
      have h1 : 44 ∈ (w.cps.toList.drop (k - a)).take 2 := by rw [hA]; exact .head _
      exact List.mem_of_mem_drop (List.mem_of_mem_take h1)
    cases cuts with
    | nil =>
      show [strSub x a x.length] = [w]
      congr 1
      apply Str.ext'
      apply Array.toList_inj.mp
      rw [strSub_toList, hx']
      refine List.take_of_length_le ?_
      rw [← hx']
      simp [Str.length]
    | cons c r => exact absurd hG.2.1 (no c hG.1)
  | w :: w2 :: r, a, f, cuts, _, hw, hx, ha, hG, hn => by
    have hj : (Str.join ⟨#[44, 32]⟩ (w :: w2 :: r)).cps.toList = w.cps.toList ++ ([44, 32] ++ (Str.join ⟨#[44, 32]⟩ (w2 :: r)).cps.toList) := by
      show (w ++ ⟨#[44, 32]⟩ ++ Str.join ⟨#[44, 32]⟩ (w2 :: r)).cps.toList = _
      simp [Str.cps_append]
    rw [hj] at hx
    have yes : At x ⟨#[44, 32]⟩ x.length (a + w.cps.toList.length) := by
      rw [at_comma, ← List.drop_drop, hx, List.drop_left]
      rfl
    have no : ∀ k, a ≤ k → k < a + w.cps.toList.length → ¬ At x ⟨#[44, 32]⟩ x.length k := by
      intro k hk hk2 hA
      rw [at_comma] at hA
      have e : x.cps.toList.drop k = w.cps.toList.drop (k - a) ++ ([44, 32] ++ (Str.join ⟨#[44, 32]⟩ (w2 :: r)).cps.toList) := by
        rw [← List.drop_append_of_le_length (by omega), ← hx, List.drop_drop]; congr 1; omega
      rw [e] at hA
      refine hw w (.head _) ?_
      have h1 : ∃ c l, w.cps.toList.drop (k - a) = c :: l := by
        cases hd : w.cps.toList.drop (k - a) with
        | nil =>
          have := congrArg List.length hd
          simp only [List.length_drop, List.length_nil] at this
          omega
        | cons c l => exact ⟨c, l, rfl⟩
      obtain ⟨c, l, hd⟩ := h1
      rw [hd] at hA
      have hc : c = 44 := by
        have := congrArg List.head? hA
        simpa using this
      have : c ∈ w.cps.toList.drop (k - a) := by rw [hd]; exact .head _
      rw [← hc]
      exact List.mem_of_mem_drop this
    cases cuts with
    | nil =>
      have e : f = a := hG
      subst e
      exact absurd yes (hn _ (Nat.le_add_right _ _))
    | cons c q =>
      obtain ⟨g1, g2, g3, g4⟩ := hG
      have ec : c = a + w.cps.toList.length := by
        rcases Nat.lt_trichotomy c (a + w.cps.toList.length) with h | h | h
        · exact absurd g2 (no c g1 h)
        · exact h
        · exact absurd yes (g3 _ (Nat.le_add_right _ _) h)
      subst ec
      have e2 : (⟨#[44, 32]⟩ : Str).length = 2 := rfl
      show strSub x a (a + w.cps.toList.length) :: partsFrom x (⟨#[44, 32]⟩ : Str).length (a + w.cps.toList.length + (⟨#[44, 32]⟩ : Str).length) q = w :: w2 :: r
      congr 1
      · apply Str.ext'
        apply Array.toList_inj.mp
        rw [strSub_toList, hx, Nat.add_sub_cancel_left, List.take_left]
      · refine parts_glue x (w2 :: r) _ f q (by simp) (fun y hy => hw y (.tail _ hy)) ?_ ?_ g4 hn
        · rw [e2, Nat.add_assoc, ← List.drop_drop, hx, ← List.drop_drop, List.drop_left]
          rfl
        · have := g2.1
          omega
theorem split_join {ws : List Str} (h0 : ws ≠ []) (hw : ∀ y ∈ ws, 44 ∉ y.cps.toList) : PySem.Txt.split (PySem.Txt.join ⟨#[44, 32]⟩ ws) ⟨#[44, 32]⟩ = ws := by
  have ej : PySem.Txt.join ⟨#[44, 32]⟩ ws = Str.join ⟨#[44, 32]⟩ ws := StrLaws.glued_eq_join _ _
  rw [ej]
  obtain ⟨f, hG, hn⟩ := occ_tight (Str.join ⟨#[44, 32]⟩ ws) ⟨#[44, 32]⟩ (by decide)
  have key := parts_glue (Str.join ⟨#[44, 32]⟩ ws) ws 0 f _ h0 hw (List.drop_zero ..) (Nat.zero_le _) hG hn
  unfold PySem.Txt.split
  split
  · rename_i hc
    match ws, h0 with
    | [w], _ => rfl
    | w :: w2 :: r, _ =>
      exfalso
      rw [Bool.or_eq_true, decide_eq_true_eq, decide_eq_true_eq] at hc
      have e2 : (⟨#[44, 32]⟩ : Str).length = 2 := rfl
      have ek : strKind ⟨#[44, 32]⟩ = 1 := by decide +kernel
      rcases hc with h | h
      · have : (Str.join ⟨#[44, 32]⟩ (w :: w2 :: r)).length = w.length + 2 + (Str.join ⟨#[44, 32]⟩ (w2 :: r)).length := by
          show (w ++ ⟨#[44, 32]⟩ ++ Str.join ⟨#[44, 32]⟩ (w2 :: r)).length = _
          rw [Str.length_append, Str.length_append, e2]
        omega
      · have := strKind_pos (Str.join ⟨#[44, 32]⟩ (w :: w2 :: r))
        omega
  · split
    · rename_i he
      rw [List.isEmpty_iff.mp he] at key
      have e3 : partsFrom (Str.join ⟨#[44, 32]⟩ ws) (⟨#[44, 32]⟩ : Str).length 0 [] = [Str.join ⟨#[44, 32]⟩ ws] := by
        show [strSub _ 0 _] = _
        rw [sub_whole]
      exact e3.symm.trans key
    · rw [partsBetween_eq]
      exact key
end Mine
end
section
namespace Mine
/-- where a bit's lowest flag stands -/
noncomputable def posN (b : Int) : Nat := if b < 11 then b.toNat else if b = 11 then 31 else 32
noncomputable def bitOk (b : Int) : Prop := 0 ≤ b ∧ b < 13
theorem bit_facts : ∀ {b : Int}, bitOk b → (b ≠ 12 → flagI b = ((2 ^ posN b : Nat) : Int) ∧ posN b < 32 ∧ pfName (posN b) = nameS b) ∧ 44 ∉ (nameS b).cps.toList ∧ PyData.canLay0 (.str (nameS b)) = true ∧ (∃ k : Nat, flagI b = ((2 ^ posN b * k : Nat) : Int) ∧ k ≤ 9) ∧ (nameS b).length ≤ 20 := by
  have key : ∀ i < 13, (i ≠ 12 → flagI (i : Nat) = ((2 ^ posN (i : Nat) : Nat) : Int) ∧ posN (i : Nat) < 32 ∧ pfName (posN (i : Nat)) = nameS (i : Nat)) ∧ 44 ∉ (nameS (i : Nat)).cps.toList ∧ PyData.canLay0 (.str (nameS (i : Nat))) = true ∧ (∃ k < 10, flagI (i : Nat) = ((2 ^ posN (i : Nat) * k : Nat) : Int)) ∧ (nameS (i : Nat)).length ≤ 20 := by decide +kernel
  intro b hb
  obtain ⟨h0, h1⟩ := hb
  obtain ⟨i, rfl⟩ : ∃ i : Nat, b = i := ⟨b.toNat, by omega⟩
  obtain ⟨k1, k2, k3, ⟨k, k4, k5⟩, k6⟩ := key i (by omega)
  exact ⟨fun h => k1 (by omega), k2, k3, ⟨k, k5, by omega⟩, k6⟩
theorem posN_lt {a b : Int} (ha : bitOk a) (hb : bitOk b) (h : a < b) : posN a < posN b := by
  unfold posN bitOk at *
  split <;> split <;> first | omega | (split <;> first | omega | (split <;> omega))
theorem bit12 {b : Int} (hb : bitOk b) (h : 32 ≤ posN b) : b = 12 := by
  unfold posN bitOk at *
  split at h
  · omega
  · split at h <;> omega
noncomputable def sumF (bs : List Int) : Int := (bs.map flagI).sum
theorem pow_dvd {bs : List Int} {i : Nat} (hb : ∀ b ∈ bs, bitOk b) (hi : ∀ b ∈ bs, i ≤ posN b) : ∃ k : Nat, sumF bs = ((2 ^ i * k : Nat) : Int) := by
  induction bs with
  | nil => exact ⟨0, rfl⟩
  | cons b r ih =>
    obtain ⟨k, hk⟩ := ih (fun x hx => hb x (.tail _ hx)) fun x hx => hi x (.tail _ hx)
    obtain ⟨-, -, -, ⟨k2, hk2, -⟩, -⟩ := bit_facts (hb b (.head _))
    have h1 := hi b (.head _)
    refine ⟨2 ^ (posN b - i) * k2 + k, ?_⟩
    have e : 2 ^ posN b = 2 ^ i * 2 ^ (posN b - i) := by rw [← Nat.pow_add]; congr 1; omega
    show flagI b + sumF r = _
    rw [hk, hk2, e, Nat.mul_add, Nat.mul_assoc]
    push_cast; rfl
theorem pfBit_eq (i : Nat) : pfBit i = ((2 ^ i : Nat) : Int) := by
  unfold pfBit
  have : (0 + (i : Int)).toNat = i := by omega
  rw [this, Int.one_mul]; push_cast; rfl
theorem and_cast (k i : Nat) : Builtin.bitAnd (k : Int) ((2 ^ i : Nat) : Int) = ((k &&& 2 ^ i : Nat) : Int) := by
  show PySem.Spec.bitAnd (k : Int) ((2 ^ i : Nat) : Int) = _
  unfold PySem.Spec.bitAnd
  rw [decide_eq_true (Int.natCast_nonneg k), decide_eq_true (Int.natCast_nonneg (2 ^ i))]
  rfl
theorem pf_skip {i k : Nat} {acc : List Str} : pfStep (((2 ^ (i + 1) * k : Nat) : Int), acc) i = (((2 ^ (i + 1) * k : Nat) : Int), acc) := by
  unfold pfStep
  have : (2 ^ (i + 1) * k).testBit i = false := by
    rw [Nat.testBit_two_pow_mul]; simp; omega
  rw [pfBit_eq, and_cast, and_pow, this]
  simp
theorem pf_hit {i k : Nat} {acc : List Str} : pfStep (((2 ^ i : Nat) : Int) + ((2 ^ (i + 1) * k : Nat) : Int), acc) i = (((2 ^ (i + 1) * k : Nat) : Int), acc ++ [pfName i]) := by
  have hb : (2 ^ i + 2 ^ (i + 1) * k).testBit i = true := by
    rw [Nat.pow_succ, Nat.mul_assoc, Nat.testBit_eq_decide_div_mod_eq]
    rw [show 2 ^ i + 2 ^ i * (2 * k) = 2 ^ i * (1 + 2 * k) by rw [Nat.mul_add, Nat.mul_one]]
    rw [Nat.mul_div_cancel_left _ (Nat.two_pow_pos i)]
    simp
  have e0 : ((2 ^ i : Nat) : Int) + ((2 ^ (i + 1) * k : Nat) : Int) = ((2 ^ i + 2 ^ (i + 1) * k : Nat) : Int) := by push_cast; rfl
  unfold pfStep
  have hand : Builtin.bitAnd ((2 ^ i + 2 ^ (i + 1) * k : Nat) : Int) (pfBit i) = ((2 ^ i : Nat) : Int) := by
    rw [pfBit_eq, and_cast, and_pow, if_pos hb]
  rw [e0]
  show (if Builtin.bitAnd ((2 ^ i + 2 ^ (i + 1) * k : Nat) : Int) (pfBit i) ≠ 0 then (Builtin.bitXor ((2 ^ i + 2 ^ (i + 1) * k : Nat) : Int) (pfBit i), acc ++ [pfName i]) else _) = _
  have hpos : (0 : Int) < ((2 ^ i : Nat) : Int) := by exact_mod_cast Nat.two_pow_pos i
  rw [bitXor_and, hand, if_pos (by omega), pfBit_eq]
  congr 1
  push_cast
  omega
theorem pf_fold : ∀ (k i : Nat) (bs : List Int) (acc : List Str), i + k = 32 → (∀ b ∈ bs, bitOk b) → (∀ b ∈ bs, i ≤ posN b) → bs.Pairwise (· < ·) →
    ∃ pre tail, bs = pre ++ tail ∧ (∀ b ∈ pre, b ≠ 12) ∧ (∀ b ∈ tail, b = 12) ∧ (List.range' i k).foldl pfStep (sumF bs, acc) = (sumF tail, acc ++ pre.map nameS)
  | 0, i, bs, acc, hk, hb, hi, _ => ⟨[], bs, rfl, nofun, fun b h => bit12 (hb b h) (by have := hi b h; omega), by simp⟩
  | k + 1, i, bs, acc, hk, hb, hi, hp => by
    rw [List.range'_succ, List.foldl_cons]
    by_cases h0 : ∀ b ∈ bs, i + 1 ≤ posN b
    · obtain ⟨q, hq⟩ := pow_dvd hb h0
      rw [hq, pf_skip, ← hq]
      exact pf_fold k (i + 1) bs acc (by omega) hb h0 hp
    · match bs, h0 with
      | [], h0 => exact absurd nofun h0
      | b :: r, h0 =>
        obtain ⟨hp1, hp2⟩ := List.pairwise_cons.mp hp
        have hr : ∀ x ∈ r, posN b < posN x := fun x hx => posN_lt (hb b (.head _)) (hb x (.tail _ hx)) (hp1 x hx)
        have hbi : posN b = i := by
          refine Classical.byContradiction fun hne => h0 ?_
          have h1 := hi b (.head _)
          intro x hx
          rcases List.mem_cons.mp hx with rfl | hx
          · omega
          · have := hr x hx; omega
        have hb12 : b ≠ 12 := by
          rintro rfl
          have : posN 12 = 32 := by decide
          omega
        obtain ⟨f1, -⟩ := bit_facts (hb b (.head _))
        obtain ⟨f2, -, f3⟩ := f1 hb12
        have hr' : ∀ x ∈ r, i + 1 ≤ posN x := fun x hx => by have := hr x hx; omega
        obtain ⟨q, hq⟩ := pow_dvd (fun x hx => hb x (.tail _ hx)) hr'
        have e : sumF (b :: r) = ((2 ^ i : Nat) : Int) + ((2 ^ (i + 1) * q : Nat) : Int) := by
          show flagI b + sumF r = _
          rw [f2, hq, hbi]
        rw [e, pf_hit, ← hq]
        obtain ⟨pre, tail, g1, g2, g3, g4⟩ := pf_fold k (i + 1) r (acc ++ [pfName i]) (by omega) (fun x hx => hb x (.tail _ hx)) hr' hp2
        refine ⟨b :: pre, tail, by rw [g1]; rfl, ?_, g3, ?_⟩
        · intro x hx
          rcases List.mem_cons.mp hx with rfl | hx
          · exact hb12
          · exact g2 x hx
        · rw [g4, List.map_cons, ← f3, hbi, List.append_assoc]; rfl
theorem pretty_words {bs : List Int} (hb : ∀ b ∈ bs, bitOk b) (hp : bs.Pairwise (· < ·)) : prettyNames (sumF bs) = if bs = [] then [Str.ofString "0x0"] else bs.map nameS := by
  obtain ⟨pre, tail, g1, g2, g3, g4⟩ := pf_fold 32 0 bs [] rfl hb (fun _ _ => Nat.zero_le _) hp
  have hr : pfRun (sumF bs) 32 = (sumF tail, pre.map nameS) := by
    unfold pfRun
    rw [List.range_eq_range', g4, List.nil_append]
  have h12 : flagI 12 = 38654705664 := by decide +kernel
  have pos : ∀ b, bitOk b → 0 < flagI b := by
    have key : ∀ i < 13, 0 < flagI (i : Nat) := by decide +kernel
    intro b ⟨h0, h1⟩
    obtain ⟨i, rfl⟩ : ∃ i : Nat, b = i := ⟨b.toNat, by omega⟩
    exact key i (by omega)
  have sumpos : ∀ l : List Int, (∀ b ∈ l, bitOk b) → 0 ≤ sumF l := by
    intro l hl
    induction l with
    | nil => exact Int.le_refl _
    | cons b r ih =>
      show 0 ≤ flagI b + sumF r
      have := pos b (hl b (.head _))
      have := ih fun x hx => hl x (.tail _ hx)
      omega
  unfold prettyNames
  rw [hr]
  match tail, g3 with
  | [], _ =>
    rw [List.append_nil] at g1
    subst g1
    cases bs with
    | nil => decide +kernel
    | cons b r =>
      have h1 := pos b (hb b (.head _))
      have h2 := sumpos r fun x hx => hb x (.tail _ hx)
      have h3 : sumF (b :: r) ≠ 0 := by
        show flagI b + sumF r ≠ 0
        omega
      rw [if_pos ⟨h3, rfl⟩, if_neg (by simp)]
  | [c], g3 =>
    obtain rfl := g3 c (.head _)
    have e : sumF [12] = 38654705664 := by show flagI 12 + 0 = _; rw [h12]; rfl
    rw [if_neg (fun h => by rw [e] at h; exact absurd (show (38654705664 : Int) = 0 from h.2) (by decide)), e, g1, if_neg (by simp), List.map_append]
    congr 1
    show [baseText "0x" 16 38654705664] = [nameS 12]
    decide +kernel
  | c :: d :: r, g3 =>
    exfalso
    obtain rfl := g3 c (.head _)
    obtain rfl := g3 d (.tail _ (.head _))
    rw [g1] at hp
    have := (List.pairwise_cons.mp (List.pairwise_append.mp hp).2.1).1 12 (.head _)
    omega
end Mine
end
section
namespace Mine
/-- weighted sum of a list -/
noncomputable def sgF (f : Nat → Int) : List Int → Int
  | [] => 0
  | c :: r => f 0 * c + sgF (fun k => f (k + 1)) r
theorem sg_set : ∀ (cs : List Int) (f : Nat → Int) (p : Nat), p < cs.length → sgF f (cs.set p (cs.getD p 0 + 1)) = sgF f cs + f p
  | [], _, _, h => absurd h (Nat.not_lt_zero _)
  | c :: r, f, 0, _ => by
    show f 0 * (c + 1) + sgF (fun k => f (k + 1)) r = (f 0 * c + sgF (fun k => f (k + 1)) r) + f 0
    rw [Int.mul_add]; omega
  | c :: r, f, p + 1, h => by
    have ih := sg_set r (fun k => f (k + 1)) p (by simpa using h)
    show f 0 * c + sgF (fun k => f (k + 1)) (r.set p (r.getD p 0 + 1)) = (f 0 * c + sgF (fun k => f (k + 1)) r) + f (p + 1)
    rw [ih]; omega
theorem sg_zeros : ∀ (cs : List Int) (f : Nat → Int) (zs : List Int), (∀ z ∈ zs, z = 0) → sgF f (cs ++ zs) = sgF f cs
  | [], f, zs, hz => by
    show sgF f zs = 0
    induction zs generalizing f with
    | nil => rfl
    | cons z r ih =>
      show f 0 * z + sgF (fun k => f (k + 1)) r = 0
      rw [ih _ fun x hx => hz x (.tail _ hx), hz z (.head _)]; omega
  | c :: r, f, zs, hz => by
    show f 0 * c + sgF (fun k => f (k + 1)) (r ++ zs) = f 0 * c + sgF (fun k => f (k + 1)) r
    rw [sg_zeros r _ zs hz]
theorem sg_range : ∀ (cs : List Int) (f : Nat → Int), sgF f cs = ((List.range cs.length).map fun k => f k * cs.getD k 0).sum
  | [], _ => rfl
  | c :: r, f => by
    have ih := sg_range r fun k => f (k + 1)
    show f 0 * c + sgF (fun k => f (k + 1)) r = ((List.range (r.length + 1)).map fun k => f k * (c :: r).getD k 0).sum
    rw [List.range_succ_eq_map, List.map_cons, List.sum_cons, List.map_map, ih]
    rfl
theorem sg_drop : ∀ (s : Nat) (cs : List Int) (f : Nat → Int), (∀ k, k < s → f k = 0) → sgF f cs = sgF (fun k => f (k + s)) (cs.drop s)
  | 0, _, _, _ => rfl
  | s + 1, [], _, _ => rfl
  | s + 1, c :: r, f, h => by
    have ih := sg_drop s r (fun k => f (k + 1)) fun k hk => h (k + 1) (by omega)
    show f 0 * c + sgF (fun k => f (k + 1)) r = sgF (fun k => f (k + (s + 1))) (r.drop s)
    rw [h 0 (by omega), ih]
    have e : (fun k => f (k + s + 1)) = fun k => f (k + (s + 1)) := rfl
    rw [e]; omega
theorem ind_sg {size : Int} (h1 : 1 ≤ size) (cs : List Int) : indS size cs (rangeKs size ((cs.length : Int) - size).toNat) = sgF (fun k => (k : Int).fdiv size) cs := by
  obtain ⟨n, rfl⟩ : ∃ n : Nat, size = n := ⟨size.toNat, by omega⟩
  rw [sg_drop n cs _ (fun k hk => by rw [Int.fdiv_eq_ediv_of_nonneg _ (by omega)]; exact Int.ediv_eq_zero_of_lt (by omega) (by omega)), sg_range]
  unfold indS rangeKs
  rw [List.map_map, List.length_drop]
  have e : ((cs.length : Int) - (n : Int)).toNat = cs.length - n := by omega
  rw [e]
  congr 1
  apply List.map_congr_left
  intro k hk
  have hk' := List.mem_range.mp hk
  show ((n : Int) + (k : Int)).fdiv n * cs.getD ((n : Int) + (k : Int)).toNat 0 = (((k + n : Nat)) : Int).fdiv n * (cs.drop n).getD k 0
  have e1 : ((n : Int) + (k : Int)).toNat = n + k := by omega
  have e2 : (n : Int) + (k : Int) = ((k + n : Nat) : Int) := by push_cast; omega
  rw [e1, e2]
  congr 1
  simp [List.getD_eq_getElem?_getD, List.getElem?_drop]
noncomputable def bumpW (cs : List Int) (b : Int) : List Int := if (cs.length : Int) ≤ b then wsPut (wsGrow cs b) b else wsPut cs b
theorem put_sg {cs : List Int} {p : Nat} (f : Nat → Int) (h : p < cs.length) : sgF f (wsPut cs p) = sgF f cs + f p := by
  unfold wsPut
  rw [Int.toNat_natCast]
  exact sg_set cs f p h
theorem grow_zero {m : Nat} : ∀ z ∈ (List.replicate m [(0 : Int)]).flatten, z = 0 := by
  intro z hz
  obtain ⟨l, hl, hzl⟩ := List.mem_flatten.mp hz
  rw [List.eq_of_mem_replicate hl] at hzl
  exact List.mem_singleton.mp hzl
theorem grow_len {cs : List Int} {p : Nat} (h : cs.length ≤ p) : (wsGrow cs p).length = p + 1 := by
  unfold wsGrow
  rw [List.length_append, List.length_flatten, List.map_replicate, List.sum_replicate_nat]
  simp only [List.length_cons, List.length_nil]
  omega
theorem bump_sg (cs : List Int) (p : Nat) (f : Nat → Int) : sgF f (bumpW cs p) = sgF f cs + f p := by
  unfold bumpW
  by_cases h : (cs.length : Int) ≤ p
  · rw [if_pos h, put_sg f (by rw [grow_len (by omega)]; omega)]
    unfold wsGrow
    rw [sg_zeros _ _ _ grow_zero]
  · rw [if_neg h, put_sg f (by omega)]
theorem bump_len (cs : List Int) (p : Nat) (h : cs.length ≤ 10) (hp : p < 10) : (bumpW cs p).length ≤ 10 := by
  unfold bumpW
  by_cases h : (cs.length : Int) ≤ p
  · rw [if_pos h]
    unfold wsPut
    rw [List.length_set, grow_len (by omega)]; omega
  · rw [if_neg h]
    unfold wsPut
    rw [List.length_set]; omega
theorem run_blanks : ∀ (k : Nat) (n nt b : Int) (cs : List Int), (List.replicate k 32).foldl wsStep ⟨n, nt, b, cs⟩ = ⟨n + k, nt, b + k, cs⟩
  | 0, n, nt, b, cs => by
    show (⟨n, nt, b, cs⟩ : WS) = ⟨n + (0 : Nat), nt, b + (0 : Nat), cs⟩
    simp
  | k + 1, n, nt, b, cs => by
    rw [List.replicate_succ, List.foldl_cons]
    have e : wsStep ⟨n, nt, b, cs⟩ 32 = ⟨n + 1, nt, b + 1, cs⟩ := rfl
    rw [e, run_blanks k]
    congr 1 <;> (push_cast; omega)
theorem run_tab (n nt b : Int) (cs : List Int) : wsStep ⟨n, nt, b, cs⟩ 9 = ⟨n + 1, nt + 1, 0, bumpW cs b⟩ := by
  unfold wsStep bumpW
  rw [if_neg (by decide)]
  show (if (cs.length : Int) ≤ b then _ else _) = _
  split <;> rfl
noncomputable def blockP (p : Nat) : List Nat := List.replicate p 32 ++ [9]
theorem run_blocks : ∀ (ps : List Nat) (n nt : Int) (cs : List Int), cs.length ≤ 10 → (∀ p ∈ ps, p < 10) →
    ∃ cs', (ps.flatMap blockP).foldl wsStep ⟨n, nt, 0, cs⟩ = ⟨n + (ps.map fun (p : Nat) => (p : Int) + 1).sum, nt + ps.length, 0, cs'⟩ ∧ cs'.length ≤ 10 ∧ ∀ f, sgF f cs' = sgF f cs + (ps.map f).sum
  | [], n, nt, cs, hc, _ => ⟨cs, by simp, hc, fun f => by simp⟩
  | p :: r, n, nt, cs, hc, hp => by
    obtain ⟨cs', g1, g2, g3⟩ := run_blocks r (n + p + 1) (nt + 1) (bumpW cs p) (bump_len cs p hc (hp p (.head _))) fun x hx => hp x (.tail _ hx)
    refine ⟨cs', ?_, g2, fun f => ?_⟩
    · rw [List.flatMap_cons, List.foldl_append]
      have e : (blockP p).foldl wsStep ⟨n, nt, 0, cs⟩ = ⟨n + p + 1, nt + 1, 0, bumpW cs p⟩ := by
        unfold blockP
        rw [List.foldl_append, run_blanks]
        show wsStep ⟨n + p, nt, 0 + p, cs⟩ 9 = _
        rw [run_tab, Int.zero_add]
      rw [e, g1, List.map_cons, List.sum_cons, List.length_cons]
      congr 1 <;> (push_cast; omega)
    · rw [g3 f, bump_sg, List.map_cons, List.sum_cons]; omega
end Mine
end
section
namespace Mine
noncomputable def clL (l : List Nat) : List Nat := l.filter fun (c : Nat) => !isB1 (c : Int)
theorem cl_app (a b : List Nat) : clL (a ++ b) = clL a ++ clL b := List.filter_append ..
theorem clean_list (x : Str) : (cleanS (KStt.codes x)).cps.toList = clL x.cps.toList := by
  unfold cleanS KStt.codes clL
  show (((x.cps.toList.map fun (c : Nat) => (c : Int)).filter (fun c => !isB1 c)).map Int.toNat) = _
  rw [List.filter_map, List.map_map]
  have e : (Int.toNat ∘ fun (c : Nat) => (c : Int)) = id := by funext c; exact Int.toNat_natCast c
  rw [e, List.map_id]
  rfl
theorem cl_spaces (n : Nat) : clL (List.replicate n 32) = List.replicate n 32 := by
  have h : isB1 ((32 : Nat) : Int) = false := by decide +kernel
  induction n with
  | zero => rfl
  | succ n ih =>
    rw [List.replicate_succ]
    unfold clL at ih ⊢
    rw [List.filter_cons, h, ih]; rfl
theorem cl_tab : clL [9] = [9] := by decide +kernel
theorem cl_unseen {n : Int} (h : 0 ≤ n) : clL [unseenCode n] = [] := by
  have key : ∀ c ∈ [173, 847, 6150, 6155, 6156, 6157, 8203, 8204, 8205, 8288, 65279] ++ List.range' 65024 16, clL [c] = [] := by decide +kernel
  exact key _ (unseen_in h)
theorem beside_facts (n : Int) : clL [besideCode n] = [besideCode n] ∧ isWs (besideCode n) = false := by
  have h0 : 0 ≤ n.fmod 16 := Int.fmod_nonneg_of_pos _ (by decide)
  have h1 : n.fmod 16 < 16 := Int.fmod_lt_of_pos _ (by decide)
  unfold besideCode
  obtain ⟨i, hi⟩ : ∃ i : Nat, n.fmod 16 = i := ⟨(n.fmod 16).toNat, by omega⟩
  rw [hi, Int.toNat_natCast]
  have key : ∀ i < 16, clL [([172, 174, 846, 848, 6149, 6151, 6154, 6158, 8202, 8206, 8287, 8289, 65023, 65040, 65278, 65280].getD i (0 : Int)).toNat] = [([172, 174, 846, 848, 6149, 6151, 6154, 6158, 8202, 8206, 8287, 8289, 65023, 65040, 65278, 65280].getD i (0 : Int)).toNat] ∧
    isWs ([172, 174, 846, 848, 6149, 6151, 6154, 6158, 8202, 8206, 8287, 8289, 65023, 65040, 65278, 65280].getD i (0 : Int)).toNat = false := by decide +kernel
  exact key i (by omega)
theorem join_empty_list : ∀ l : List Str, (PySem.Txt.join (Str.ofString "") l).cps.toList = l.flatMap fun x => x.cps.toList := by
  have e0 : Str.ofString "" = ⟨#[]⟩ := by decide +kernel
  intro l
  have ej : PySem.Txt.join (Str.ofString "") l = Str.join (Str.ofString "") l := StrLaws.glued_eq_join _ _
  rw [ej, e0]
  clear ej
  induction l with
  | nil => rfl
  | cons x r ih =>
    cases r with
    | nil => show x.cps.toList = _; simp
    | cons y r =>
      show (x ++ ⟨#[]⟩ ++ Str.join ⟨#[]⟩ (y :: r)).cps.toList = _
      rw [Str.cps_append, Str.cps_append, Array.toList_append, Array.toList_append, ih]
      simp
theorem cut_facts {t : Tr} (h : trOk t) : 0 ≤ t.s.fmod (t.p + 1) ∧ t.s.fmod (t.p + 1) ≤ t.p := by
  obtain ⟨-, -, h1, -, -, -⟩ := h
  have h2 : 0 ≤ t.s.fmod (t.p + 1) := Int.fmod_nonneg_of_pos _ (by omega)
  have h3 : t.s.fmod (t.p + 1) < t.p + 1 := Int.fmod_lt_of_pos _ (by omega)
  exact ⟨h2, by omega⟩
theorem cl_val {t : Tr} (h : trOk t) : clL (valS t).cps.toList = blockP t.p.toNat := by
  obtain ⟨c1, c2⟩ := cut_facts h
  obtain ⟨-, -, h1, -, h3, -⟩ := h
  rw [valS_list, cl_app, cl_app, cl_app, cl_spaces, cl_spaces, cl_tab, cl_unseen h3, List.append_nil, List.replicate_append_replicate]
  unfold blockP
  congr 2
  omega
theorem cl_texts {n : Int} {cs : List Tr} (hn : 0 ≤ n) (h : ∀ t ∈ cs, trOk t) : clL ((textsOf n cs).flatMap fun x => x.cps.toList) = (cs.map fun t => t.p.toNat).flatMap blockP := by
  unfold textsOf
  by_cases h0 : cs = []
  · subst h0
    rw [if_pos rfl]
    show clL ([unseenCode (n.fdiv 3)] ++ []) = []
    rw [List.append_nil]
    exact cl_unseen (Int.fdiv_nonneg hn (by decide))
  · rw [if_neg h0]
    clear h0
    induction cs with
    | nil => rfl
    | cons t r ih =>
      rw [List.map_cons, List.flatMap_cons, cl_app, ih fun x hx => h x (.tail _ hx), cl_val (h t (.head _)), List.map_cons, List.flatMap_cons]
theorem lead_list {n blanks : Int} {cs : List Tr} (hn : 0 ≤ n) (h : ∀ t ∈ cs, trOk t) :
    (leadX n blanks cs).cps.toList = (cs.map fun t => t.p.toNat).flatMap blockP ++ List.replicate blanks.toNat 32 ++ [besideCode (n.fdiv 3)] ++ [9] := by
  have e1 : Str.ofString " " = ⟨#[32]⟩ := by decide +kernel
  have e2 : Str.ofString "\t" = ⟨#[9]⟩ := by decide +kernel
  unfold leadX
  rw [clean_list]
  unfold textX
  rw [Str.cps_append, Str.cps_append, Str.cps_append, Array.toList_append, Array.toList_append, Array.toList_append, join_empty_list, e1, e2, mul_one_list, cl_app, cl_app, cl_app, cl_texts hn h, cl_spaces]
  show _ ++ clL [besideCode (n.fdiv 3)] ++ clL [9] = _
  rw [(beside_facts _).1, cl_tab]
theorem ws_blocks (ps : List Nat) : ∀ c ∈ ps.flatMap blockP, isWs c = true := by
  intro c hc
  obtain ⟨p, -, hp⟩ := List.mem_flatMap.mp hc
  unfold blockP at hp
  rcases List.mem_append.mp hp with h | h
  · rw [List.eq_of_mem_replicate h]; rfl
  · rw [List.mem_singleton.mp h]; rfl
theorem blocks_len : ∀ ps : List Nat, (∀ p ∈ ps, p < 6) → (ps.flatMap blockP).length ≤ 6 * ps.length
  | [], _ => Nat.zero_le _
  | p :: r, h => by
    have ih := blocks_len r fun x hx => h x (.tail _ hx)
    have h1 := h p (.head _)
    rw [List.flatMap_cons, List.length_append, List.length_cons]
    have : (blockP p).length = p + 1 := by unfold blockP; simp
    omega
theorem take_ws {a : List Nat} {b : Nat} {r : List Nat} (ha : ∀ c ∈ a, isWs c = true) (hb : isWs b = false) : (a ++ b :: r).takeWhile isWs = a := by
  induction a with
  | nil => show (b :: r).takeWhile isWs = []; rw [List.takeWhile_cons, hb]; rfl
  | cons c a ih =>
    rw [List.cons_append, List.takeWhile_cons, ha c (.head _), if_pos rfl, ih fun x hx => ha x (.tail _ hx)]
theorem lead_ok {ts : List Tr} {n blanks : Int} {i : Nat} (hn : 0 ≤ n) (h : ∀ t ∈ ts, trOk t) (hb0 : 0 ≤ blanks) (hb1 : blanks < 3) : LeadOk ts n blanks i := by
  have hc : ∀ t ∈ pickTo ts i 4, trOk t := fun t ht => h t (pickTo_sub t ht)
  have hl : (pickTo ts i 4).length ≤ 4 := pickTo_len
  have e5 : colI ts blanks = fun size j => blanks + ((pickTo ts j 4).map fun t => size * (t.p.fdiv size + 1)).sum := rfl
  have hp : ∀ p ∈ (pickTo ts i 4).map fun t => t.p.toNat, p < 6 := by
    intro p hp
    obtain ⟨t, ht, rfl⟩ := List.mem_map.mp hp
    obtain ⟨-, -, q1, q2, -, -⟩ := hc t ht
    omega
  have hx := lead_list (blanks := blanks) hn hc
  have ht : (leadX n blanks (pickTo ts i 4)).cps.toList.takeWhile isWs = ((pickTo ts i 4).map fun t => t.p.toNat).flatMap blockP ++ List.replicate blanks.toNat 32 := by
    rw [hx, List.append_assoc]
    exact take_ws (by
      intro c hc'
      rcases List.mem_append.mp hc' with h | h
      · exact ws_blocks _ c h
      · rw [List.eq_of_mem_replicate h]; rfl) (beside_facts _).2
  obtain ⟨cs', g1, g2, g3⟩ := run_blocks ((pickTo ts i 4).map fun t => t.p.toNat) 0 0 [] (by simp) fun p q => by have := hp p q; omega
  have hr : leadR n blanks (pickTo ts i 4) = ⟨0 + (((pickTo ts i 4).map fun t => t.p.toNat).map fun (p : Nat) => (p : Int) + 1).sum + (blanks.toNat : Nat), 0 + (((pickTo ts i 4).map fun t => t.p.toNat).length : Nat), 0 + (blanks.toNat : Nat), cs'⟩ := by
    unfold leadR
    rw [ht]
    unfold wsRun
    rw [List.foldl_append, g1, run_blanks]
  have hbn : ((blanks.toNat : Nat) : Int) = blanks := by omega
  have hps : (((pickTo ts i 4).map fun t => t.p.toNat).map fun (p : Nat) => (p : Int) + 1) = (pickTo ts i 4).map fun t => t.p + 1 := by
    rw [List.map_map]
    apply List.map_congr_left
    intro t ht
    obtain ⟨-, -, q1, -, -, -⟩ := hc t ht
    show ((t.p.toNat : Nat) : Int) + 1 = t.p + 1
    omega
  rw [hbn, hps, List.length_map, Int.zero_add, Int.zero_add, Int.zero_add] at hr
  constructor
  · have : (leadX n blanks (pickTo ts i 4)).length = (leadX n blanks (pickTo ts i 4)).cps.toList.length := by simp [Str.length]
    rw [this, hx]
    simp only [List.length_append, List.length_replicate, List.length_cons, List.length_nil]
    have := blocks_len _ hp
    rw [List.length_map] at this
    omega
  · rw [hr]; rfl
  · rw [hr]
  · rw [hr]; show cs'.length ≤ 100; omega
  · intro size s1 s4
    rw [hr]
    show indentI size cs' ((pickTo ts i 4).length : Int) blanks = blanks + ((pickTo ts i 4).map fun t => size * (t.p.fdiv size + 1)).sum
    unfold indentI
    rw [ind_sg s1, g3]
    congr 1
    have e0 : sgF (fun (k : Nat) => (k : Int).fdiv size) [] = 0 := rfl
    rw [e0, Int.zero_add, List.map_map]
    clear hr hps g3 g1 hp hx ht hl e0
    generalize pickTo ts i 4 = cs at hc
    induction cs with
    | nil => simp
    | cons t r ih =>
      have ih := ih fun x hx => hc x (.tail _ hx)
      obtain ⟨-, -, q1, -, -, -⟩ := hc t (.head _)
      rw [List.map_cons, List.sum_cons, List.map_cons, List.sum_cons, List.length_cons, ← ih]
      show size * (((t.p.toNat : Nat) : Int).fdiv size + _ + ((r.length + 1 : Nat) : Int)) = _
      have e : ((t.p.toNat : Nat) : Int) = t.p := by omega
      rw [e, ← Int.mul_add]
      congr 1
      push_cast
      omega
end Mine
end
section
namespace Mine
theorem tr_bit {t : Tr} (h : trOk t) : bitOk t.b := ⟨h.1, h.2.1⟩
theorem pick_pair {ts : List Tr} {i j : Nat} (h : ts.Pairwise (fun x y => x.b < y.b)) : ((pickTo ts i j).map fun t => t.b).Pairwise (· < ·) := by
  rw [List.pairwise_map]
  unfold pickTo
  rw [List.pairwise_filterMap]
  refine List.Pairwise.imp ?_ (List.pairwise_lt_range (n := j))
  intro a b hab x hx y hy
  have hx' : ts[a]? = some x := by split at hx <;> first | exact hx | cases hx
  have hy' : ts[b]? = some y := by split at hy <;> first | exact hy | cases hy
  obtain ⟨ha, rfl⟩ := List.getElem?_eq_some_iff.mp hx'
  obtain ⟨hb, rfl⟩ := List.getElem?_eq_some_iff.mp hy'
  exact List.pairwise_iff_getElem.mp h a b ha hb hab
theorem flag_sumF {ts : List Tr} {i : Nat} : flagSum ts i = sumF ((pickTo ts i 4).map fun t => t.b) := by
  unfold flagSum sumF pick
  rw [List.map_map]; rfl
theorem flag_bound {b : Int} (h : bitOk b) : 0 ≤ flagI b ∧ flagI b ≤ 38654705664 := by
  have key : ∀ i < 13, 0 ≤ flagI (i : Nat) ∧ flagI (i : Nat) ≤ 38654705664 := by decide +kernel
  obtain ⟨h0, h1⟩ := h
  obtain ⟨i, rfl⟩ : ∃ i : Nat, b = i := ⟨b.toNat, by omega⟩
  exact key i (by omega)
theorem sumF_high : ∀ {bs : List Int}, (∀ b ∈ bs, bitOk b) → bs.Pairwise (· < ·) → (∀ b ∈ bs, b ≠ 12) → ∀ {k : Nat}, (∀ b ∈ bs, posN b < k) → sumF bs < ((2 ^ k : Nat) : Int)
  | bs, hb, hp, h12, k, hk => by
    rw [← List.reverse_reverse bs] at *
    revert k
    generalize bs.reverse = rs at *
    induction rs with
    | nil => intro k _; show (0 : Int) < _; exact_mod_cast Nat.two_pow_pos k
    | cons b r ih =>
      intro k hk
      rw [List.reverse_cons] at *
      have hbm : b ∈ r.reverse ++ [b] := List.mem_append_right _ (.head _)
      have ih := ih (fun x hx => hb x (List.mem_append_left _ hx)) (List.pairwise_append.mp hp).1 (fun x hx => h12 x (List.mem_append_left _ hx)) (k := posN b)
        (fun x hx => posN_lt (hb x (List.mem_append_left _ hx)) (hb b hbm) ((List.pairwise_append.mp hp).2.2 x hx b (.head _)))
      obtain ⟨f1, -⟩ := bit_facts (hb b hbm)
      obtain ⟨f2, -, -⟩ := f1 (h12 b hbm)
      have h1 := hk b hbm
      have e : sumF (r.reverse ++ [b]) = sumF r.reverse + flagI b := by
        unfold sumF
        rw [List.map_append, List.sum_append]; simp
      have h2 : 2 ^ (posN b + 1) ≤ 2 ^ k := Nat.pow_le_pow_right (by decide) h1
      rw [e, f2]
      rw [Nat.pow_succ] at h2
      have : ((2 ^ posN b : Nat) : Int) + ((2 ^ posN b : Nat) : Int) ≤ ((2 ^ k : Nat) : Int) := by
        have h3 : 2 ^ posN b + 2 ^ posN b ≤ 2 ^ k := by omega
        exact_mod_cast h3
      omega
end Mine
end
section
namespace Mine
section
variable {ts : List Tr} {i : Nat} {n : Int}
theorem pick_bits (hO : ∀ t ∈ ts, trOk t) : ∀ b ∈ (pickTo ts i 4).map fun t => t.b, bitOk b := by
  intro b hb
  obtain ⟨t, ht, rfl⟩ := List.mem_map.mp hb
  exact tr_bit (hO t (pickTo_sub t ht))
theorem sumF_nonneg : ∀ {bs : List Int}, (∀ b ∈ bs, bitOk b) → 0 ≤ sumF bs
  | [], _ => Int.le_refl _
  | b :: r, h => by
    have h1 := (flag_bound (h b (.head _))).1
    have h2 := sumF_nonneg fun x hx => h x (.tail _ hx)
    show 0 ≤ flagI b + sumF r
    omega
theorem f_sum1 (hO : ∀ t ∈ ts, trOk t) : 0 ≤ flagSum ts i := by
  rw [flag_sumF]
  exact sumF_nonneg (pick_bits hO)
theorem f_sum2 (hO : ∀ t ∈ ts, trOk t) (hP : ts.Pairwise (fun x y => x.b < y.b)) : flagSum ts i ≤ 103079215104 := by
  rw [flag_sumF]
  have hb := pick_bits (i := i) hO
  have hp := pick_pair (i := i) (j := 4) hP
  obtain ⟨pre, tail, g1, g2, g3, -⟩ := pf_fold 32 0 ((pickTo ts i 4).map fun t => t.b) [] rfl hb (fun _ _ => Nat.zero_le _) hp
  rw [g1] at hb hp ⊢
  have e : sumF (pre ++ tail) = sumF pre + sumF tail := by
    unfold sumF
    rw [List.map_append, List.sum_append]
  have h1 := sumF_high (k := 32) (fun b h => hb b (List.mem_append_left _ h)) (List.pairwise_append.mp hp).1 g2
    (fun b h => ((bit_facts (hb b (List.mem_append_left _ h))).1 (g2 b h)).2.1)
  have e32 : ((2 ^ 32 : Nat) : Int) = 4294967296 := by decide
  have h12 : flagI 12 = 38654705664 := by decide +kernel
  have h2 : sumF tail ≤ 38654705664 := by
    match tail, g3 with
    | [], _ => show (0 : Int) ≤ _; decide
    | [c], g3 =>
      obtain rfl := g3 c (.head _)
      show flagI 12 + 0 ≤ _
      rw [h12]; decide
    | c :: d :: r, g3 =>
      exfalso
      obtain rfl := g3 c (.head _)
      obtain rfl := g3 d (.tail _ (.head _))
      have := (List.pairwise_cons.mp (List.pairwise_append.mp hp).2.1).1 12 (.head _)
      omega
  omega
theorem f_pretty (hO : ∀ t ∈ ts, trOk t) (hP : ts.Pairwise (fun x y => x.b < y.b)) : prettyNames (flagSum ts i) = wordsOf (pickTo ts i 4) := by
  rw [flag_sumF, pretty_words (pick_bits hO) (pick_pair hP)]
  unfold wordsOf
  rw [List.map_map]
  simp only [List.map_eq_nil_iff]
  rfl
theorem words_ne (cs : List Tr) : wordsOf cs ≠ [] := by
  unfold wordsOf
  split
  · simp
  · simp only [ne_eq, List.map_eq_nil_iff]; assumption
theorem words_all {cs : List Tr} (hO : ∀ t ∈ cs, trOk t) : ∀ y ∈ wordsOf cs, 44 ∉ y.cps.toList ∧ PyData.canLay0 (.str y) = true ∧ y.length ≤ 20 := by
  intro y hy
  unfold wordsOf at hy
  split at hy
  · rw [List.mem_singleton.mp hy]
    decide +kernel
  · obtain ⟨t, ht, rfl⟩ := List.mem_map.mp hy
    obtain ⟨-, h1, h2, -, h3⟩ := bit_facts (tr_bit (hO t ht))
    exact ⟨h1, h2, h3⟩
theorem comma_eq : Str.ofString ", " = ⟨#[44, 32]⟩ := by decide +kernel
theorem pick_ok (hO : ∀ t ∈ ts, trOk t) : ∀ t ∈ pickTo ts i 4, trOk t := fun t ht => hO t (pickTo_sub t ht)
theorem f_split (hO : ∀ t ∈ ts, trOk t) (hP : ts.Pairwise (fun x y => x.b < y.b)) : PySem.Txt.split (PySem.Txt.join (Str.ofString ", ") (prettyNames (flagSum ts i))) (Str.ofString ", ") = wordsOf (pickTo ts i 4) := by
  rw [f_pretty hO hP, comma_eq]
  exact split_join (words_ne _) fun y hy => (words_all (pick_ok hO) y hy).1
theorem words_len (cs : List Tr) : (wordsOf cs).length ≤ cs.length + 1 := by
  unfold wordsOf
  split
  · simp
  · rw [List.length_map]; omega
theorem sum_len : ∀ {l : List Str} {k : Nat}, (∀ y ∈ l, y.length ≤ k) → (l.map (·.length)).sum ≤ k * l.length
  | [], _, _ => Nat.le_refl _
  | y :: r, k, h => by
    have h1 := h y (.head _)
    have h2 := sum_len (l := r) fun x hx => h x (.tail _ hx)
    rw [List.map_cons, List.sum_cons, List.length_cons, Nat.mul_succ]
    omega
theorem f_join (hO : ∀ t ∈ ts, trOk t) (hP : ts.Pairwise (fun x y => x.b < y.b)) : (PySem.Txt.join (Str.ofString ", ") (prettyNames (flagSum ts i))).length ≤ 1000 := by
  rw [f_pretty hO hP, comma_eq]
  have ej : PySem.Txt.join ⟨#[44, 32]⟩ (wordsOf (pickTo ts i 4)) = Str.join ⟨#[44, 32]⟩ (wordsOf (pickTo ts i 4)) := StrLaws.glued_eq_join _ _
  rw [ej]
  have h1 := StrLaws.join_length_le ⟨#[44, 32]⟩ (wordsOf (pickTo ts i 4))
  have h2 := sum_len (k := 20) fun y hy => (words_all (pick_ok (i := i) hO) y hy).2.2
  have h3 := words_len (pickTo ts i 4)
  have h4 : (pickTo ts i 4).length ≤ 4 := pickTo_len
  have h5 : (⟨#[44, 32]⟩ : Str).length = 2 := rfl
  rw [h5] at h1
  omega
theorem f_can (hO : ∀ t ∈ ts, trOk t) : ∀ y ∈ wordsOf (pickTo ts i 4), PyData.canLay0 (.str y) = true := fun y hy => (words_all (pick_ok hO) y hy).2.1
theorem texts_len (n : Int) (cs : List Tr) : (textsOf n cs).length = (wordsOf cs).length := by
  unfold textsOf wordsOf
  split <;> simp
theorem val_len {t : Tr} (h : trOk t) : (valS t).length ≤ 7 := by
  obtain ⟨c1, c2⟩ := cut_facts h
  obtain ⟨-, -, h1, h2, -, -⟩ := h
  have : (valS t).length = (valS t).cps.toList.length := by simp [Str.length]
  rw [this, valS_list]
  simp only [List.length_append, List.length_replicate, List.length_cons, List.length_nil]
  omega
theorem texts_all {cs : List Tr} (hO : ∀ t ∈ cs, trOk t) : ∀ y ∈ textsOf n cs, y.length ≤ 7 := by
  intro y hy
  unfold textsOf at hy
  split at hy
  · rw [List.mem_singleton.mp hy]
    show 1 ≤ 7
    decide
  · obtain ⟨t, ht, rfl⟩ := List.mem_map.mp hy
    exact val_len (hO t ht)
theorem texts_few {cs : List Tr} (h : cs.length ≤ 4) : (textsOf n cs).length ≤ 4 := by
  unfold textsOf
  split
  · show 1 ≤ 4; decide
  · rw [List.length_map]; exact h
theorem f_wt (hO : ∀ t ∈ ts, trOk t) : ((textsOf n (pickTo ts i 4)).map (·.length)).sum + (textsOf n (pickTo ts i 4)).length ≤ 1048576 := by
  have h2 := sum_len (k := 7) (texts_all (n := n) (pick_ok (i := i) hO))
  have h3 : (textsOf n (pickTo ts i 4)).length ≤ 4 := texts_few pickTo_len
  omega
theorem f_jl (hO : ∀ t ∈ ts, trOk t) : (PySem.Txt.join (Str.ofString "") (textsOf n (pickTo ts i 4))).length ≤ 40 := by
  have ej : PySem.Txt.join (Str.ofString "") (textsOf n (pickTo ts i 4)) = Str.join (Str.ofString "") (textsOf n (pickTo ts i 4)) := StrLaws.glued_eq_join _ _
  rw [ej]
  have h1 := StrLaws.join_length_le (Str.ofString "") (textsOf n (pickTo ts i 4))
  have h2 := sum_len (k := 7) (texts_all (n := n) (pick_ok (i := i) hO))
  have h3 : (textsOf n (pickTo ts i 4)).length ≤ 4 := texts_few pickTo_len
  have h5 : (Str.ofString "").length = 0 := by decide +kernel
  rw [h5] at h1
  omega
theorem f_lead {blanks : Int} (hn : 0 ≤ n) (hO : ∀ t ∈ ts, trOk t) (hb0 : 0 ≤ blanks) (hb1 : blanks < 3) : LeadOk ts n blanks i := lead_ok hn hO hb0 hb1
theorem kv_find {hs : List Hd} {L : List (Str × Str)} {wd : Str} {p : Str × Str} (hkv : hs.map Hd.kv = L) (hf : L.find? (fun q => PySem.Txt.lower q.1 == PySem.Txt.lower wd) = some p) : ∃ h0, hs.find? (hdMatch wd) = some h0 ∧ h0.v = p.2 := by
  subst hkv
  rw [List.find?_map] at hf
  obtain ⟨h0, e, rfl⟩ := Option.map_eq_some_iff.mp hf
  exact ⟨h0, e, rfl⟩
theorem lower_facts : ∀ {b : Int}, bitOk b → PySem.Txt.lower (PySem.Txt.lower (nameS b)) = PySem.Txt.lower (nameS b) ∧ PySem.Txt.lower (PySem.Txt.upper (nameS b)) = PySem.Txt.lower (nameS b) ∧ PySem.Txt.lower (Str.ofString "0X0") ≠ PySem.Txt.lower (nameS b) := by
  have key : ∀ i < 13, PySem.Txt.lower (PySem.Txt.lower (nameS (i : Nat))) = PySem.Txt.lower (nameS (i : Nat)) ∧ PySem.Txt.lower (PySem.Txt.upper (nameS (i : Nat))) = PySem.Txt.lower (nameS (i : Nat)) ∧ PySem.Txt.lower (Str.ofString "0X0") ≠ PySem.Txt.lower (nameS (i : Nat)) := by decide +kernel
  intro b ⟨h0, h1⟩
  obtain ⟨i, rfl⟩ : ∃ i : Nat, b = i := ⟨b.toNat, by omega⟩
  exact key i (by omega)
theorem lower_inj {a b : Int} (ha : bitOk a) (hb : bitOk b) (h : PySem.Txt.lower (nameS a) = PySem.Txt.lower (nameS b)) : a = b := by
  have key : ∀ i < 13, ∀ j < 13, PySem.Txt.lower (nameS (i : Nat)) = PySem.Txt.lower (nameS (j : Nat)) → i = j := by decide +kernel
  obtain ⟨h0, h1⟩ := ha
  obtain ⟨h2, h3⟩ := hb
  obtain ⟨i, rfl⟩ : ∃ i : Nat, a = i := ⟨a.toNat, by omega⟩
  obtain ⟨j, rfl⟩ : ∃ j : Nat, b = j := ⟨b.toNat, by omega⟩
  exact congrArg _ (key i (by omega) j (by omega) h)
theorem lower_word {t : Tr} (h : trOk t) : PySem.Txt.lower (wordS t) = PySem.Txt.lower (nameS t.b) := by
  obtain ⟨h1, h2, -⟩ := lower_facts (tr_bit h)
  unfold wordS
  split
  · exact h1
  · exact h2
theorem find_tr : ∀ {ts : List Tr} {t : Tr}, (∀ t ∈ ts, trOk t) → ts.Pairwise (fun x y => x.b < y.b) → t ∈ ts → ts.find? (fun x => PySem.Txt.lower (wordS x) == PySem.Txt.lower (nameS t.b)) = some t
  | x :: r, t, hO, hP, hm => by
    obtain ⟨hp1, hp2⟩ := List.pairwise_cons.mp hP
    rw [List.find?_cons]
    rcases List.mem_cons.mp hm with rfl | hm'
    · rw [lower_word (hO t (.head _))]
      simp
    · have hne : (PySem.Txt.lower (wordS x) == PySem.Txt.lower (nameS t.b)) = false := by
        rw [lower_word (hO x (.head _)), beq_eq_false_iff_ne]
        intro e
        have := lower_inj (tr_bit (hO x (.head _))) (tr_bit (hO t hm)) e
        have := hp1 t hm'
        omega
      rw [hne]
      exact find_tr (fun y hy => hO y (.tail _ hy)) hp2 hm'
theorem f_get {hs : List Hd} (hO : ∀ t ∈ ts, trOk t) (hP : ts.Pairwise (fun x y => x.b < y.b)) (hkv : hs.map Hd.kv = fileKv ts n) : ∀ (j : Nat) (wd : Str), (wordsOf (pickTo ts i 4))[j]? = some wd →
    NameOk (PySem.Txt.lower wd) ∧ wd.length ≤ 100 ∧ ∃ h0, hs.find? (hdMatch wd) = some h0 ∧ (textsOf n (pickTo ts i 4))[j]? = some h0.v := by
  intro j wd hj
  unfold wordsOf at hj
  by_cases h0 : pickTo ts i 4 = []
  · rw [if_pos h0] at hj
    have hj0 : j = 0 ∧ wd = Str.ofString "0x0" := by
      match j, hj with
      | 0, hj => exact ⟨rfl, (Option.some.inj hj).symm⟩
    obtain ⟨rfl, rfl⟩ := hj0
    have c1 : nameChk (PySem.Txt.lower (Str.ofString "0x0")) = true := by decide +kernel
    have c2 : (Str.ofString "0x0").length ≤ 100 := by decide +kernel
    have c3 : (PySem.Txt.lower (Str.ofString "0X0") == PySem.Txt.lower (Str.ofString "0x0")) = true := by decide +kernel
    obtain ⟨h, e1, e2⟩ := kv_find (wd := Str.ofString "0x0") (p := (Str.ofString "0X0", unseenS (n.fdiv 3))) hkv (by
      unfold fileKv filePre
      rw [List.append_assoc, List.append_assoc, List.cons_append, List.find?_cons, c3])
    refine ⟨(nameChk_ok c1).1, c2, h, e1, ?_⟩
    unfold textsOf
    rw [if_pos h0, e2]; rfl
  · rw [if_neg h0, List.getElem?_map] at hj
    obtain ⟨t, ht, rfl⟩ := Option.map_eq_some_iff.mp hj
    have hm := pickTo_sub t (List.mem_of_getElem? ht)
    have hok := hO t hm
    obtain ⟨-, k1, -⟩ := name_facts hok.1 hok.2.1
    obtain ⟨-, -, -, -, k2⟩ := bit_facts (tr_bit hok)
    obtain ⟨-, -, k3⟩ := lower_facts (tr_bit hok)
    obtain ⟨h, e1, e2⟩ := kv_find (wd := nameS t.b) (p := (wordS t, valS t)) hkv (by
      unfold fileKv filePre
      rw [List.append_assoc, List.append_assoc, List.cons_append, List.find?_cons]
      have : (PySem.Txt.lower (Str.ofString "0X0") == PySem.Txt.lower (nameS t.b)) = false := by
        rw [beq_eq_false_iff_ne]; exact k3
      rw [this, List.nil_append, List.find?_append, List.find?_map]
      have e := find_tr hO hP hm
      have : List.find? ((fun (q : Str × Str) => PySem.Txt.lower q.1 == PySem.Txt.lower (nameS t.b)) ∘ fun t => (wordS t, valS t)) ts = some t := e
      rw [this]; rfl)
    refine ⟨k1.1, by omega, h, e1, ?_⟩
    unfold textsOf
    rw [if_neg h0, List.getElem?_map, ht, e2]; rfl
theorem f_hd {hs : List Hd} (hO : ∀ t ∈ ts, trOk t) (hkv : hs.map Hd.kv = fileKv ts n) : ∀ h ∈ hs, hdOk h := by
  intro h hh
  have hm : h.kv ∈ fileKv ts n := hkv ▸ List.mem_map_of_mem hh
  have key : ∀ p ∈ fileKv ts n, p.1.length ≤ 20 := by
    intro p hp
    unfold fileKv filePre at hp
    simp only [List.mem_append, List.mem_cons, List.not_mem_nil, or_false, List.mem_map] at hp
    rcases hp with ((rfl | ⟨t, ht, rfl⟩) | ⟨t, ht, rfl⟩) | rfl
    · show (Str.ofString "0X0").length ≤ 20; decide +kernel
    · obtain ⟨-, k1, k2⟩ := name_facts (hO t ht).1 (hO t ht).2.1
      show (wordS t).length ≤ 20
      unfold wordS
      split
      · exact k1.2
      · exact k2.2
    · exact (name_facts (hO t ht).1 (hO t ht).2.1).1.2
    · show (Str.ofString "0x0").length ≤ 20; decide +kernel
  have := key _ hm
  unfold hdOk
  have e : h.kv.1 = h.k := rfl
  rw [e] at this
  omega
end
end Mine
end
section
namespace Mine
theorem pr1 (b x y z u : Int) : ((b + 0) ^ 1 * 1 + ((b + (x + 0)) ^ 1 * -1 + ((b + (y + 0)) ^ 1 * -1 + ((b + (x + (y + 0))) ^ 1 * 1 + ((b + (z + 0)) ^ 1 * -1 + ((b + (x + (z + 0))) ^ 1 * 1 + ((b + (y + (z + 0))) ^ 1 * 1 + ((b + (x + (y + (z + 0)))) ^ 1 * -1 + ((b + (u + 0)) ^ 1 * -1 + ((b + (x + (u + 0))) ^ 1 * 1 + ((b + (y + (u + 0))) ^ 1 * 1 + ((b + (x + (y + (u + 0)))) ^ 1 * -1 + ((b + (z + (u + 0))) ^ 1 * 1 + ((b + (x + (z + (u + 0)))) ^ 1 * -1 + ((b + (y + (z + (u + 0)))) ^ 1 * -1 + ((b + (x + (y + (z + (u + 0))))) ^ 1 * 1 + 0)))))))))))))))) = 0 := by grind
theorem pr2 (b x y z u : Int) : ((b + 0) ^ 2 * 1 + ((b + (x + 0)) ^ 2 * -1 + ((b + (y + 0)) ^ 2 * -1 + ((b + (x + (y + 0))) ^ 2 * 1 + ((b + (z + 0)) ^ 2 * -1 + ((b + (x + (z + 0))) ^ 2 * 1 + ((b + (y + (z + 0))) ^ 2 * 1 + ((b + (x + (y + (z + 0)))) ^ 2 * -1 + ((b + (u + 0)) ^ 2 * -1 + ((b + (x + (u + 0))) ^ 2 * 1 + ((b + (y + (u + 0))) ^ 2 * 1 + ((b + (x + (y + (u + 0)))) ^ 2 * -1 + ((b + (z + (u + 0))) ^ 2 * 1 + ((b + (x + (z + (u + 0)))) ^ 2 * -1 + ((b + (y + (z + (u + 0)))) ^ 2 * -1 + ((b + (x + (y + (z + (u + 0))))) ^ 2 * 1 + 0)))))))))))))))) = 0 := by grind
theorem pr3 (b x y z u : Int) : ((b + 0) ^ 3 * 1 + ((b + (x + 0)) ^ 3 * -1 + ((b + (y + 0)) ^ 3 * -1 + ((b + (x + (y + 0))) ^ 3 * 1 + ((b + (z + 0)) ^ 3 * -1 + ((b + (x + (z + 0))) ^ 3 * 1 + ((b + (y + (z + 0))) ^ 3 * 1 + ((b + (x + (y + (z + 0)))) ^ 3 * -1 + ((b + (u + 0)) ^ 3 * -1 + ((b + (x + (u + 0))) ^ 3 * 1 + ((b + (y + (u + 0))) ^ 3 * 1 + ((b + (x + (y + (u + 0)))) ^ 3 * -1 + ((b + (z + (u + 0))) ^ 3 * 1 + ((b + (x + (z + (u + 0)))) ^ 3 * -1 + ((b + (y + (z + (u + 0)))) ^ 3 * -1 + ((b + (x + (y + (z + (u + 0))))) ^ 3 * 1 + 0)))))))))))))))) = 0 := by grind
theorem pr4 (b x y z u : Int) : ((b + 0) ^ 4 * 1 + ((b + (x + 0)) ^ 4 * -1 + ((b + (y + 0)) ^ 4 * -1 + ((b + (x + (y + 0))) ^ 4 * 1 + ((b + (z + 0)) ^ 4 * -1 + ((b + (x + (z + 0))) ^ 4 * 1 + ((b + (y + (z + 0))) ^ 4 * 1 + ((b + (x + (y + (z + 0)))) ^ 4 * -1 + ((b + (u + 0)) ^ 4 * -1 + ((b + (x + (u + 0))) ^ 4 * 1 + ((b + (y + (u + 0))) ^ 4 * 1 + ((b + (x + (y + (u + 0)))) ^ 4 * -1 + ((b + (z + (u + 0))) ^ 4 * 1 + ((b + (x + (z + (u + 0)))) ^ 4 * -1 + ((b + (y + (z + (u + 0)))) ^ 4 * -1 + ((b + (x + (y + (z + (u + 0))))) ^ 4 * 1 + 0)))))))))))))))) = 24 * x * y * z * u := by grind
noncomputable def wI (size : Int) (t : Tr) : Int := size * (t.p.fdiv size + 1)
theorem td0 (t0 t1 t2 t3 : Tr) (b size pw : Int) : toldF [t0, t1, t2, t3] b size pw 0 = (b + 0) ^ pw.toNat * 1 := by
  have e : pick [t0, t1, t2, t3] 0 = [] := rfl
  have f : (1 - (([] : List Tr).length : Int).fmod 2 * 2) = 1 := by
    show 1 - ((0 : Nat) : Int).fmod 2 * 2 = 1
    decide
  unfold toldF colI
  rw [e, f]
  rfl
theorem td1 (t0 t1 t2 t3 : Tr) (b size pw : Int) : toldF [t0, t1, t2, t3] b size pw 1 = (b + (wI size t0 + 0)) ^ pw.toNat * -1 := by
  have e : pick [t0, t1, t2, t3] 1 = [t0] := rfl
  have f : (1 - (([t0] : List Tr).length : Int).fmod 2 * 2) = -1 := by
    show 1 - ((1 : Nat) : Int).fmod 2 * 2 = -1
    decide
  unfold toldF colI
  rw [e, f]
  rfl
theorem td2 (t0 t1 t2 t3 : Tr) (b size pw : Int) : toldF [t0, t1, t2, t3] b size pw 2 = (b + (wI size t1 + 0)) ^ pw.toNat * -1 := by
  have e : pick [t0, t1, t2, t3] 2 = [t1] := rfl
  have f : (1 - (([t1] : List Tr).length : Int).fmod 2 * 2) = -1 := by
    show 1 - ((1 : Nat) : Int).fmod 2 * 2 = -1
    decide
  unfold toldF colI
  rw [e, f]
  rfl
theorem td3 (t0 t1 t2 t3 : Tr) (b size pw : Int) : toldF [t0, t1, t2, t3] b size pw 3 = (b + (wI size t0 + (wI size t1 + 0))) ^ pw.toNat * 1 := by
  have e : pick [t0, t1, t2, t3] 3 = [t0, t1] := rfl
  have f : (1 - (([t0, t1] : List Tr).length : Int).fmod 2 * 2) = 1 := by
    show 1 - ((2 : Nat) : Int).fmod 2 * 2 = 1
    decide
  unfold toldF colI
  rw [e, f]
  rfl
theorem td4 (t0 t1 t2 t3 : Tr) (b size pw : Int) : toldF [t0, t1, t2, t3] b size pw 4 = (b + (wI size t2 + 0)) ^ pw.toNat * -1 := by
  have e : pick [t0, t1, t2, t3] 4 = [t2] := rfl
  have f : (1 - (([t2] : List Tr).length : Int).fmod 2 * 2) = -1 := by
    show 1 - ((1 : Nat) : Int).fmod 2 * 2 = -1
    decide
  unfold toldF colI
  rw [e, f]
  rfl
theorem td5 (t0 t1 t2 t3 : Tr) (b size pw : Int) : toldF [t0, t1, t2, t3] b size pw 5 = (b + (wI size t0 + (wI size t2 + 0))) ^ pw.toNat * 1 := by
  have e : pick [t0, t1, t2, t3] 5 = [t0, t2] := rfl
  have f : (1 - (([t0, t2] : List Tr).length : Int).fmod 2 * 2) = 1 := by
    show 1 - ((2 : Nat) : Int).fmod 2 * 2 = 1
    decide
  unfold toldF colI
  rw [e, f]
  rfl
theorem td6 (t0 t1 t2 t3 : Tr) (b size pw : Int) : toldF [t0, t1, t2, t3] b size pw 6 = (b + (wI size t1 + (wI size t2 + 0))) ^ pw.toNat * 1 := by
  have e : pick [t0, t1, t2, t3] 6 = [t1, t2] := rfl
  have f : (1 - (([t1, t2] : List Tr).length : Int).fmod 2 * 2) = 1 := by
    show 1 - ((2 : Nat) : Int).fmod 2 * 2 = 1
    decide
  unfold toldF colI
  rw [e, f]
  rfl
theorem td7 (t0 t1 t2 t3 : Tr) (b size pw : Int) : toldF [t0, t1, t2, t3] b size pw 7 = (b + (wI size t0 + (wI size t1 + (wI size t2 + 0)))) ^ pw.toNat * -1 := by
  have e : pick [t0, t1, t2, t3] 7 = [t0, t1, t2] := rfl
  have f : (1 - (([t0, t1, t2] : List Tr).length : Int).fmod 2 * 2) = -1 := by
    show 1 - ((3 : Nat) : Int).fmod 2 * 2 = -1
    decide
  unfold toldF colI
  rw [e, f]
  rfl
theorem td8 (t0 t1 t2 t3 : Tr) (b size pw : Int) : toldF [t0, t1, t2, t3] b size pw 8 = (b + (wI size t3 + 0)) ^ pw.toNat * -1 := by
  have e : pick [t0, t1, t2, t3] 8 = [t3] := rfl
  have f : (1 - (([t3] : List Tr).length : Int).fmod 2 * 2) = -1 := by
    show 1 - ((1 : Nat) : Int).fmod 2 * 2 = -1
    decide
  unfold toldF colI
  rw [e, f]
  rfl
theorem td9 (t0 t1 t2 t3 : Tr) (b size pw : Int) : toldF [t0, t1, t2, t3] b size pw 9 = (b + (wI size t0 + (wI size t3 + 0))) ^ pw.toNat * 1 := by
  have e : pick [t0, t1, t2, t3] 9 = [t0, t3] := rfl
  have f : (1 - (([t0, t3] : List Tr).length : Int).fmod 2 * 2) = 1 := by
    show 1 - ((2 : Nat) : Int).fmod 2 * 2 = 1
    decide
  unfold toldF colI
  rw [e, f]
  rfl
theorem td10 (t0 t1 t2 t3 : Tr) (b size pw : Int) : toldF [t0, t1, t2, t3] b size pw 10 = (b + (wI size t1 + (wI size t3 + 0))) ^ pw.toNat * 1 := by
  have e : pick [t0, t1, t2, t3] 10 = [t1, t3] := rfl
  have f : (1 - (([t1, t3] : List Tr).length : Int).fmod 2 * 2) = 1 := by
    show 1 - ((2 : Nat) : Int).fmod 2 * 2 = 1
    decide
  unfold toldF colI
  rw [e, f]
  rfl
theorem td11 (t0 t1 t2 t3 : Tr) (b size pw : Int) : toldF [t0, t1, t2, t3] b size pw 11 = (b + (wI size t0 + (wI size t1 + (wI size t3 + 0)))) ^ pw.toNat * -1 := by
  have e : pick [t0, t1, t2, t3] 11 = [t0, t1, t3] := rfl
  have f : (1 - (([t0, t1, t3] : List Tr).length : Int).fmod 2 * 2) = -1 := by
    show 1 - ((3 : Nat) : Int).fmod 2 * 2 = -1
    decide
  unfold toldF colI
  rw [e, f]
  rfl
theorem td12 (t0 t1 t2 t3 : Tr) (b size pw : Int) : toldF [t0, t1, t2, t3] b size pw 12 = (b + (wI size t2 + (wI size t3 + 0))) ^ pw.toNat * 1 := by
  have e : pick [t0, t1, t2, t3] 12 = [t2, t3] := rfl
  have f : (1 - (([t2, t3] : List Tr).length : Int).fmod 2 * 2) = 1 := by
    show 1 - ((2 : Nat) : Int).fmod 2 * 2 = 1
    decide
  unfold toldF colI
  rw [e, f]
  rfl
theorem td13 (t0 t1 t2 t3 : Tr) (b size pw : Int) : toldF [t0, t1, t2, t3] b size pw 13 = (b + (wI size t0 + (wI size t2 + (wI size t3 + 0)))) ^ pw.toNat * -1 := by
  have e : pick [t0, t1, t2, t3] 13 = [t0, t2, t3] := rfl
  have f : (1 - (([t0, t2, t3] : List Tr).length : Int).fmod 2 * 2) = -1 := by
    show 1 - ((3 : Nat) : Int).fmod 2 * 2 = -1
    decide
  unfold toldF colI
  rw [e, f]
  rfl
theorem td14 (t0 t1 t2 t3 : Tr) (b size pw : Int) : toldF [t0, t1, t2, t3] b size pw 14 = (b + (wI size t1 + (wI size t2 + (wI size t3 + 0)))) ^ pw.toNat * -1 := by
  have e : pick [t0, t1, t2, t3] 14 = [t1, t2, t3] := rfl
  have f : (1 - (([t1, t2, t3] : List Tr).length : Int).fmod 2 * 2) = -1 := by
    show 1 - ((3 : Nat) : Int).fmod 2 * 2 = -1
    decide
  unfold toldF colI
  rw [e, f]
  rfl
theorem td15 (t0 t1 t2 t3 : Tr) (b size pw : Int) : toldF [t0, t1, t2, t3] b size pw 15 = (b + (wI size t0 + (wI size t1 + (wI size t2 + (wI size t3 + 0))))) ^ pw.toNat * 1 := by
  have e : pick [t0, t1, t2, t3] 15 = [t0, t1, t2, t3] := rfl
  have f : (1 - (([t0, t1, t2, t3] : List Tr).length : Int).fmod 2 * 2) = 1 := by
    show 1 - ((4 : Nat) : Int).fmod 2 * 2 = 1
    decide
  unfold toldF colI
  rw [e, f]
  rfl
theorem told_eq (t0 t1 t2 t3 : Tr) (b size pw : Int) (x y z u : Int) (h0 : wI size t0 = x) (h1 : wI size t1 = y) (h2 : wI size t2 = z) (h3 : wI size t3 = u) :
    ((List.range 16).map (toldF [t0, t1, t2, t3] b size pw)).sum = ((b + 0) ^ pw.toNat * 1 + ((b + (x + 0)) ^ pw.toNat * -1 + ((b + (y + 0)) ^ pw.toNat * -1 + ((b + (x + (y + 0))) ^ pw.toNat * 1 + ((b + (z + 0)) ^ pw.toNat * -1 + ((b + (x + (z + 0))) ^ pw.toNat * 1 + ((b + (y + (z + 0))) ^ pw.toNat * 1 + ((b + (x + (y + (z + 0)))) ^ pw.toNat * -1 + ((b + (u + 0)) ^ pw.toNat * -1 + ((b + (x + (u + 0))) ^ pw.toNat * 1 + ((b + (y + (u + 0))) ^ pw.toNat * 1 + ((b + (x + (y + (u + 0)))) ^ pw.toNat * -1 + ((b + (z + (u + 0))) ^ pw.toNat * 1 + ((b + (x + (z + (u + 0)))) ^ pw.toNat * -1 + ((b + (y + (z + (u + 0)))) ^ pw.toNat * -1 + ((b + (x + (y + (z + (u + 0))))) ^ pw.toNat * 1 + 0)))))))))))))))) := by
  subst h0 h1 h2 h3
  have e : List.range 16 = [0, 1, 2, 3, 4, 5, 6, 7, 8, 9, 10, 11, 12, 13, 14, 15] := by decide
  rw [e]
  simp only [List.map_cons, List.map_nil, List.sum_cons, List.sum_nil, td0, td1, td2, td3, td4, td5, td6, td7, td8, td9, td10, td11, td12, td13, td14, td15]
theorem due_eq (t0 t1 t2 t3 : Tr) (size : Int) : dueTo size [t0, t1, t2, t3] = 24 * wI size t0 * wI size t1 * wI size t2 * wI size t3 := by
  show 24 * size * (t0.p.fdiv size + 1) * size * (t1.p.fdiv size + 1) * size * (t2.p.fdiv size + 1) * size * (t3.p.fdiv size + 1) = 24 * (size * (t0.p.fdiv size + 1)) * (size * (t1.p.fdiv size + 1)) * (size * (t2.p.fdiv size + 1)) * (size * (t3.p.fdiv size + 1))
  simp only [Int.mul_assoc]
theorem f_four {ts : List Tr} {b size pw : Int} (h4 : ts.length = 4) (hp : pw = 4) : ((List.range 16).map (toldF ts b size pw)).sum = dueTo size ts := by
  match ts, h4 with
  | [t0, t1, t2, t3], _ =>
    subst hp
    rw [told_eq t0 t1 t2 t3 b size 4 _ _ _ _ rfl rfl rfl rfl, due_eq]
    exact pr4 _ _ _ _ _
theorem f_low {ts : List Tr} {b size pw : Int} (h4 : ts.length = 4) (p1 : 1 ≤ pw) (p4 : pw ≤ 4) (hp : pw ≠ 4) : ((List.range 16).map (toldF ts b size pw)).sum = 0 := by
  match ts, h4 with
  | [t0, t1, t2, t3], _ =>
    rw [told_eq t0 t1 t2 t3 b size pw _ _ _ _ rfl rfl rfl rfl]
    obtain rfl | rfl | rfl : pw = 1 ∨ pw = 2 ∨ pw = 3 := by omega
    · exact pr1 _ _ _ _ _
    · exact pr2 _ _ _ _ _
    · exact pr3 _ _ _ _ _
end Mine
end
namespace Mine
theorem via {M : Model} {A : Around} {t : Sem Flow} {s : Shared} {Q : Flow → Shared → Prop} {E : Value → Shared → Prop} {h₀ : Heap} {L : Addr} {m : Str → Option Value} (_ : Fr h₀ L s.heap m)
    (walk : ∀ Q' : Flow → Shared → Prop, (∀ h' tk' m', Fr h₀ L h' m' → Q' (.ret (.bool true)) { s with heap := h', toks := tk' }) → wpAny M A t Q' E s)
    (fin : ∀ h' tk' m', Fr h₀ L h' m' → Q (.ret (.bool true)) { s with heap := h', toks := tk' }) : wpAny M A t Q E s := walk Q fin
theorem caller_of {h : Heap} {l : Addr} {vs : Array Value} (_ : h.IsList l vs) : Below callerA h [] h := below_caller h
end Mine
open Mine
local macro_rules | `(tactic| k_all) => `(tactic| assumption)
local macro_rules | `(tactic| walk_at "call ref") => `(tactic| (k_here; refine stop ?_))
local macro_rules | `(tactic| k_ne) => `(tactic| first | omega | exact cell_ne1 (by k_asm) (by k_mem) (by k_mem) (by intro v h; cases h) (by first | assumption | exact rfl) | exact cell_ne2 (by k_asm) (by k_mem) (by k_mem) (by first | assumption | exact rfl) (by intro v h; cases h))
local macro_rules | `(tactic| k_all) => `(tactic| exact blob_ne (by k_asm) (by intro p9 hp9; repeat (first | exact hp9 | refine List.Mem.tail _ ?_)) (by k_mem) (by first | assumption | exact rfl) (by assumption))
local macro_rules | `(tactic| walk_at "exec For Name Call cons nil") => `(tactic| (k_dflt (refine for_enter ?_)))
local macro_rules | `(tactic| walk_at "CompSrcT") => `(tactic| (refine stop ?_))
local macro_rules | `(tactic| walk_at "subscriptTail Name Name ref int") => `(tactic| (k_here; k_dflt (refine' step_item ?kN ?kM ?k0 ?kX ?_; (case kN => k_asm); (case kM => k_mem); (case k0 => decide); (case kX => assumption); k_whole)))
local macro_rules | `(tactic| walk_at "CompSrc") => `(tactic| (refine stop ?_))
local macro_rules | `(tactic| walk_at "eval ListComp") => `(tactic| (k_here; (k_dflt (show wpAny _ _ (eval (Expr.ListComp _ [⟨Expr.Tuple _ _ _, _, _, _⟩] _ _) _) _ _ _)); k_dflt (refine comp3 (F₀ := by k_asm) (by with_unfolding_all rfl) (by decide) (by rfl) (by decide) (by rfl) (by rfl) (by rfl) (by decide) (by decide) (by decide) ?_)))
local macro_rules | `(tactic| walk_at "call builtin:str.split") => `(tactic| (k_here; k_dflt (refine' split_use ?kF ?kN ?kE ?kY ?kZ ?_; (case kF => k_asm); (case kN => k_asm); (case kE => assumption); (case kY => decide +kernel); (case kZ => (rw [sizeLine_eq]; omega)); k_whole); intro Dw vw hw tkw Iw Fw Nw lw))
local macro_rules | `(tactic| walk_at "compareOp NotEq ref ref") => `(tactic| (k_here; k_dflt (first
  | (refine' ne_trs_nil (ts := pickTo _ _ _) ?kN ?kA ?kT ?kB ?kU ?_; (case kN => k_asm); (case kA => k_mem); (case kB => exact News.isList (by k_asm) (by k_mem)); (case kT => (intro t9 h9; repeat (first | exact List.mem_append_left _ (List.mem_append_left _ (List.mem_map_of_mem (pickTo_sub t9 h9))) | refine List.Mem.tail _ ?_))); (case kU => ke_room); k_whole)
  | refine stop ?_)))
local macro_rules | `(tactic| walk_at "eval IfExp") => `(tactic| (k_here; (k_dflt (show wpAny _ _ (eval (Expr.IfExp (Expr.Compare _ _ [Expr.List _ _] _) _ _ _) _) _ _ _)); refine stop ?_))
local macro_rules | `(tactic| walk_at "compareOp NotEq ref ref") => `(tactic| (k_here; k_dflt (refine' ne_same_strs ?kA ?kB ?kX ?kY ?kO ?kU ?_; (case kA => exact News.isList (by k_asm) (by k_mem)); (case kB => exact News.isList (by k_asm) (by k_mem)); (case kX => assumption); (case kY => assumption); (case kO => assumption); (case kU => ke_room); k_whole)))
local macro_rules | `(tactic| walk_at "call builtin:str.join") => `(tactic| (k_here; k_dflt (refine' join_listW ?kL ?kS ?kP ?kW ?_; (case kL => exact News.isList (by k_asm) (by k_mem)); (case kS => assumption); (case kP => decide +kernel); (case kW => assumption); k_whole); intro tj kj))
local macro_rules | `(tactic| walk_at "call builtin:len") => `(tactic| (k_here; (with_reducible show wpAny _ _ (call (Value.builtin "len") [Value.ref _]) _ _ _); k_dflt (refine' len_led (us := List.map Tr.ref (pickTo _ _ _)) (k := ((pickTo _ _ _).length : Int)) ?k1 ?k2 ?k4 ?k3 ?_; (case k1 => k_asm); (case k2 => k_mem); (case k4 => rw [List.length_map]); (case k3 => omega); k_whole)))
local macro_rules | `(tactic| walk_at "call builtin:list.append") => `(tactic| (refine stop ?_))
local macro_rules | `(tactic| walk_at "exec For Tuple Name cons nil") => `(tactic| (k_dflt (refine for_enter ?_)))
local macro_rules | `(tactic| mul_fits) => `(tactic| first | exact PySem.IntMulOk.of_right (PySem.intBits_le_64 (by omega) (by omega)) | exact PySem.IntMulOk.of_left (PySem.intBits_le_64 (by omega) (by omega)))
local macro_rules | `(tactic| walk_at "subscriptTail Name Name ref int") => `(tactic| (k_here; k_dflt (refine' lead_item ?kN ?kM ?k0 ?k1 ?kX ?_; (case kN => k_asm); (case kM => k_mem); (case k0 => omega); (case k1 => omega); (case kX => assumption); k_whole)))
local macro_rules | `(tactic| walk_at "subscriptTail Name Name ref int") => `(tactic| (k_here; k_dflt (refine' col_item ?kN ?kM ?kI ?k0 ?k1 ?kX ?_; (case kN => k_asm); (case kM => k_mem); (case kI => assumption); (case k0 => omega); (case k1 => omega); (case kX => assumption); k_whole); intro tC))
local macro_rules | `(tactic| walk_at "subscriptTail Name Constant ref int") => `(tactic| (k_here; k_dflt (refine' col_item ?kN ?kM ?kI ?k0 ?k1 ?kX ?_; (case kN => k_asm); (case kM => k_mem); (case kI => assumption); (case k0 => omega); (case k1 => omega); (case kX => exact cols_zero); k_whole); intro tC))
local macro_rules | `(tactic| walk_at "binaryOp Pow int int") => `(tactic| (k_here; (with_reducible refine' pow_int_small ?k1 ?k2 ?k3 ?_); (case k1 => omega); (case k2 => omega); (case k3 => omega)))
local macro_rules | `(tactic| walk_at "eval Name") => `(tactic| (k_here; k_dflt (refine' nameX_L ?F ?v ?_ ?a ?b; (case F => k_asm); (case a => rfl); (case b => rfl); (case v => assumption); k_whole)))
theorem PySem.Challenge.cw_sn0070_01_holds : PySem.Challenge.rw_sn0070_01.Holds := by
  w_on
  o_law
  refine holds_open (q := q) (loose := loose) (Xt := Xt) (XP := XL q []) (Yf := Hook.obs H) (Ya := Hook.val H) (YP := Hook.says H) (N := 6162) left (Hook.of H) (Hook.keeps H) (fun s e => xl_of s (Bool.and_eq_true_iff.mp e).1) XL.keeps (by rfl) (by rfl) (by rfl) (fun s e => recFacts_of (Bool.and_eq_true_iff.mp e).2) (by rfl) (by first | assumption | decide +kernel) (by decide +kernel) ⟨rfl, rfl, rfl, rfl, rfl, by decide +kernel⟩ ?hw ?hc
  case hw => w_witness2
  w_strict (k_go0; (all_goals try k_fold))
  have zz : (fun (_ : Params → Frag) (_ : OpenLaw) => True) K PySem.Challenge.rw_sn0070_01 := by k_fill; trivial
  clear zz
  rename World => w
  rename Below _ _ _ _ => K0
  rename Heap.IsList _ _ _ => hl0
  have K1 := caller_of hl0
  clear K0
  try (rename Ground _ _ _ _ _ _ _ _ _ => zz9; clear zz9)
  try (rename Glob _ _ _ _ _ _ _ _ => zz9; clear zz9)
  try (rename Tables _ _ _ _ => zz9; clear zz9)
  try (rename TopE _ _ _ _ => zz9; clear zz9)
  try (rename TopW _ _ _ => zz9; clear zz9)
  try (rename Dflts _ _ _ => zz9; clear zz9)
  try (rename Dflts _ _ _ _ => zz9; clear zz9)
  try (rename Dflts _ _ _ _ _ => zz9; clear zz9)
  try (rename BMod _ _ _ _ _ => zz9; clear zz9)
  try (rename Heap.CodeRec _ _ _ => zz9; clear zz9)
  rename Fr _ _ _ _ => F00
  refine via F00 ?walk77 ?fin77
  case fin77 =>
    clear F00
    intro h77 tk77 m77 F77
    k_steps
  intro Q77 hret77
  try (rename (OpenRow.wellSaid _ = true) => zz9; clear zz9)
  try (rename Hook.says _ _ _ => zz9; clear zz9)
  try (rename (Heap.get? _ _ = some _) => zz9; clear zz9)
  try (rename (Shared.gens _ = _) => zz9; clear zz9)
  try (rename Flt.MathXP _ _ _ => zz9; clear zz9)
  try (rename LooseAre _ _ _ => zz9; clear zz9)
  try (rename (Spec.Shape.has _ _ = true) => zz9; clear zz9)
  try (rename (PyData.layableAll0 _ = true) => zz9; clear zz9)
  try (rename (PyData.layable0 _ = true) => zz9; clear zz9)
  try (rename (WShape.hasAll _ _ _ = true) => zz9; clear zz9)
  try (rename (WData.layableAll _ = true) => zz9; clear zz9)
  try (rename ReadsAll _ _ _ _ => zz9; clear zz9)
  try (rename Well _ _ _ _ => zz9; clear zz9)
  try (rename Reads _ _ _ _ => zz9; clear zz9)
  try (rename ReadsAllW _ _ _ _ _ _ => zz9; clear zz9)
  try (rename True => zz9; clear zz9)
  k_steps
  unfold Stop
  refine' draw_use ?q9B1 ?q9F1 ?q9X1 ?q9N1 ?q9T1 ?q9G1 ?q9G2 ?q9G3 ?q9D1 ?q9U1 ?_
  (case q9B1 => k_asm); (case q9F1 => k_asm); (case q9X1 => k_asm); (case q9N1 => k_asm); (case q9T1 => k_asm); (case q9G3 => assumption); (case q9G1 => assumption); (case q9G2 => omega); (case q9D1 => (first | decide | ((try simp only [depth_mark, depth_under_make, depth_under_kw, depth_in1, depth_deeper, depth_caller, recursionLimit]); first | omega | decide))); (case q9U1 => (first | decide | ((have hcL9 := cLine_is); (try simp only [units_in1, units_deeper, Around.mark_units, units_caller]); (try simp only [cLine] at hcL9 ⊢); first | omega | decide)))
  intro r9 a9 b9 c9 d9 e9 ta9 tb9 tc9 td9 te9 h9 tk9 p0 p1 p2 p3 p4 p5 p6 p7 p8 p9 F9 N9
  (try dsimp only)
  (try k_fold)
  k_steps
  unfold Stop
  refine' Spec.use ?q9B1 ?q9F1 ?q9X1 ?q9N1 ?q9T1 (steps_spec _ _ _ _ _ _ _ _ _ _ _ _ _ ?q9G1 ?q9G2 ?q9G3 ?q9G4 ?q9G5 ?q9G6 ?q9G7 ?q9G8 _) ?q9D1 ?q9U1 ?_
  (case q9B1 => k_asm); (case q9F1 => k_asm); (case q9X1 => k_asm); (case q9N1 => k_asm); (case q9T1 => k_asm); (case q9G1 => assumption); (case q9G2 => assumption); (case q9G3 => assumption); (case q9G4 => assumption); (case q9G5 => assumption); (case q9G6 => assumption); (case q9G7 => assumption); (case q9G8 => assumption); (case q9D1 => (first | decide | ((try simp only [depth_mark, depth_under_make, depth_under_kw, depth_in1, depth_deeper, depth_caller, recursionLimit]); first | omega | decide))); (case q9U1 => (first | decide | ((have hcL9 := cLine_is); (try simp only [units_in1, units_deeper, Around.mark_units, units_caller]); (try simp only [cLine] at hcL9 ⊢); first | omega | decide)))
  intro v9 n9 h9 tk9 hP9 F9 N9
  obtain ⟨S, cc, ts, e8, hts4, htsP, htsO, e9⟩ := hP9
  subst e8
  subst e9
  have N10 := led_swap N9
  clear N9
  simp only [List.cons_append, List.nil_append] at N10
  have htsQ := List.pairwise_map.mp htsP
  have nc1 := NoCell.trs ts
  (try dsimp only)
  (try k_fold)
  k_steps
  unfold Stop
  refine' Spec.use ?q9B1 ?q9F1 ?q9X1 ?q9N1 ?q9T1 (file_specU _ _ _ _ _ _ ?q9G1 ?q9G2 ?q9G3 _ ?q9G4 ?q9G5) ?q9D1 ?q9U1 ?_
  (case q9B1 => k_asm); (case q9F1 => k_asm); (case q9X1 => k_asm); (case q9N1 => k_asm); (case q9T1 => k_asm); (case q9G1 => assumption); (case q9G2 => exact htsO); (case q9G3 => assumption); (case q9G4 => k_mem); (case q9G5 => (intro p9 hp9; repeat (first | exact hp9 | refine List.Mem.tail _ ?_))); (case q9D1 => (first | decide | ((try simp only [depth_mark, depth_under_make, depth_under_kw, depth_in1, depth_deeper, depth_caller, recursionLimit]); first | omega | decide))); (case q9U1 => (first | decide | ((have hcL9 := cLine_is); (try simp only [units_in1, units_deeper, Around.mark_units, units_caller]); (try simp only [cLine] at hcL9 ⊢); first | omega | decide)))
  intro v9 n9 h9 tk9 hP9 F9 N9
  obtain ⟨x, d, lh, th, hs, eh, e8, hkv, e9⟩ := hP9
  subst e8
  subst e9
  simp only [List.cons_append, List.nil_append] at N9
  have nc2 := NoCell.app nc1 (NoCell.hds hs)
  (try dsimp only)
  (try k_fold)
  k_steps
  rename News _ _ _ _ => hN
  rename Fr _ _ _ _ => hF
  rename IsRange _ _ _ _ _ _ _ _ => hR
  rename _ ∧ _ ∧ _ ∧ _ ∧ _ ∧ _ ∧ _ ∧ _ ∧ _ ∧ _ ∧ _ ∧ _ ∧ AllLt _ _ => hlt
  obtain ⟨g1, g2, g3, g4, g5, g6, g7, g8, g9, g10, g11, g12, g13⟩ := hlt
  obtain ⟨s0, s1, s2, s3, hts⟩ := four_of hts4
  have k0 : ts[(0 : Int).toNat]? = some s0 := by rw [hts]; rfl
  have k1 : ts[(1 : Int).toNat]? = some s1 := by rw [hts]; rfl
  have k2 : ts[(2 : Int).toNat]? = some s2 := by rw [hts]; rfl
  have k3 : ts[(3 : Int).toNat]? = some s3 := by rw [hts]; rfl
  clear hts
  obtain ⟨mm, hmm, hF9⟩ := fr_gen hF
  clear hF
  obtain ⟨tb9, hvb⟩ : ∃ tb, mm (Str.ofString "blanks") = some (.int (([a9, b9, c9, d9, e9].getD (Int.toNat 4) 0).fmod 3) tb) := ⟨_, by rw [hmm]; exact if_pos rfl⟩
  have hvh : mm (Str.ofString "have") = some (.ref r9) := by rw [hmm]; rfl
  clear hmm
  rename Fr _ _ _ _ => hF
  refine' lw_loop (w := w) (ts := ts) (blanks := ([a9, b9, c9, d9, e9].getD (Int.toNat 4) 0).fmod 3) rfl hR hF hN ?q9h4 nc2 (fun p hp => Nat.ne_of_lt (ktn_ltOf g13 p hp)) ?q9turn ?q9done
  case q9h4 => with_unfolding_all assumption
  case q9turn =>
    --T0
    intro c i t I oI u h tk v4 hi hlen hok h4 hll hnc off F N QT hQT
    clear hF hN
    have off0 := off
    unfold lwLed at N off
    have i0 : @Ne Nat _ _ := off _ (.head _)
    have i0' := i0.symm
    have i4 : @Ne Nat _ _ := off _ (.tail _ (.tail _ (.tail _ (.tail _ (.tail _ (.tail _ (.tail _ (.tail _ (.tail _ (.head _))))))))))
    have i4' := i4.symm
    dsimp only at i0 i0' i4 i4'
    k_steps
    unfold Stop
    rename IsRange _ _ _ _ _ _ _ _ => hR2
    refine LCt.CompSrcT.range (n := 4) rfl (by k_asm) (by k_asm) hR2 (by decide) (by rfl) (by decide) ?_
    intro gg
    refine restT_inv (fun j ys => ys = (pickTo ts i j).map Tr.ref) ?q9turn ?q9fin rfl
    case q9turn =>
      --T1
      intro j v ys I2 oI2 C oC D m₂ h2 tk2 E' hj hv hys hC hx F2 N2 off2 ne2
      obtain ⟨t2, rfl⟩ := hv
      obtain rfl | rfl | rfl | rfl : j = 0 ∨ j = 1 ∨ j = 2 ∨ j = 3 := by omega
      · have hx' : m₂ (Str.ofString "k") = some (.int 0 t2) := hx
        clear hx
        k_steps
        · exact in_end F2 N2 off2 trivial (pick_yes (bit_yes (k := 0) (by assumption)) k0 hys)
        · exact out_end F2 N2 off2 trivial (pick_no (bit_no (k := 0) (by assumption)) hys)
      · have hx' : m₂ (Str.ofString "k") = some (.int 1 t2) := hx
        clear hx
        k_steps
        · exact in_end F2 N2 off2 trivial (pick_yes (bit_yes (k := 1) (by assumption)) k1 hys)
        · exact out_end F2 N2 off2 trivial (pick_no (bit_no (k := 1) (by assumption)) hys)
      · have hx' : m₂ (Str.ofString "k") = some (.int 2 t2) := hx
        clear hx
        k_steps
        · exact in_end F2 N2 off2 trivial (pick_yes (bit_yes (k := 2) (by assumption)) k2 hys)
        · exact out_end F2 N2 off2 trivial (pick_no (bit_no (k := 2) (by assumption)) hys)
      · have hx' : m₂ (Str.ofString "k") = some (.int 3 t2) := hx
        clear hx
        k_steps
        · exact in_end F2 N2 off2 trivial (pick_yes (bit_yes (k := 3) (by assumption)) k3 hys)
        · exact out_end F2 N2 off2 trivial (pick_no (bit_no (k := 3) (by assumption)) hys)
      --E1
    case q9fin =>
      intro ys hys
      intro Dc h2 tk2 F2 N2 off2
      subst hys
      (try dsimp only)
      k_steps
      have hN2 := N2
      refine ⟨_, pick ts i, _, _, (fun t y => ∃ u, y = .int (flagI t.b) u), rfl, rfl, F2, N2, .head _, ?q9hts, Nat.le_trans pickTo_len (by decide), ?q9turn, ?q9fin⟩
      case q9hts => exact fun t ht => by repeat (first | exact List.mem_append_left _ (List.mem_append_left _ (List.mem_map_of_mem (pickTo_sub t ht))) | refine List.Mem.tail _ ?_)
      case q9turn =>
        --T2
        intro t3 ys3 I3 oI3 C3 oC3 D3 m3 h3 tk3 E3 ht3 hC3 hx1 hx2 hx3 F3 N3 off3 ne3
        obtain ⟨b1, b2, b3, b4, b5, b6⟩ := htsO t3 (pickTo_sub t3 ht3)
        k_steps
        unfold Stop
        refine' Spec.use ?q9B1 ?q9F1 ?q9X1 ?q9N1 ?q9T1 (flag_spec _ _ _ ?q9G1 ?q9G2 _) ?q9D1 ?q9U1 ?_
        (case q9B1 => k_asm); (case q9F1 => k_asm); (case q9X1 => k_asm); (case q9N1 => k_asm); (case q9T1 => k_asm); (case q9G1 => assumption); (case q9G2 => assumption); (case q9D1 => (first | decide | ((try simp only [depth_mark, depth_under_make, depth_under_kw, depth_in1, depth_deeper, depth_caller, recursionLimit]); first | omega | decide))); (case q9U1 => (first | decide | ((have hcL9 := cLine_is); (try simp only [units_in1, units_deeper, Around.mark_units, units_caller]); (try simp only [cLine] at hcL9 ⊢); first | omega | decide)))
        intro v9 n9 h9 tk9 hP9 F9 N9
        obtain ⟨u9, e8, e9⟩ := hP9
        subst e8
        subst e9
        (try dsimp only)
        (try k_fold)
        k_steps
        rename News _ _ _ _ => N8
        rename Fr _ _ _ _ => F8
        exact el_end F8 N8 off3 ⟨_, rfl⟩
        --E2
      case q9fin =>
        intro ys3 D3 h3 tk3 hE3 F3 N3 off3
        have hI3 := each_ints hE3
        clear hE3
        have hs1 : 0 ≤ flagSum ts i := f_sum1 htsO
        have hs2 : flagSum ts i ≤ 103079215104 := f_sum2 htsO htsQ
        have hs3 : PySem.Txt.split (PySem.Txt.join (Str.ofString ", ") (prettyNames (flagSum ts i))) (Str.ofString ", ") = Mine.wordsOf (pickTo ts i 4) := f_split htsO htsQ
        have hs4 : (PySem.Txt.join (Str.ofString ", ") (prettyNames (flagSum ts i))).length ≤ 1000 := f_join htsO htsQ
        unfold flagSum at hs1 hs2 hs3 hs4
        have hs5 : ∀ y ∈ Mine.wordsOf (pickTo ts i 4), PyData.canLay0 (.str y) = true := f_can htsO
        k_steps
        unfold Stop
        refine' Spec.use ?q9B1 ?q9F1 ?q9X1 ?q9N1 ?q9T1 (pretty_spec _ _ ?q9G1 ?q9G2 _ _) ?q9D1 ?q9U1 ?_
        (case q9B1 => k_asm); (case q9F1 => k_asm); (case q9X1 => k_asm); (case q9N1 => k_asm); (case q9T1 => k_asm); (case q9G1 => assumption); (case q9G2 => assumption); (case q9D1 => (first | decide | ((try simp only [depth_mark, depth_under_make, depth_under_kw, depth_in1, depth_deeper, depth_caller, recursionLimit]); first | omega | decide))); (case q9U1 => (first | decide | ((have hcL9 := cLine_is); (try simp only [units_in1, units_deeper, Around.mark_units, units_caller]); (try simp only [cLine] at hcL9 ⊢); first | omega | decide)))
        intro v9 n9 h9 tk9 hP9 F9 N9
        obtain ⟨⟨u9, e8⟩, e9⟩ := hP9
        subst e8
        subst e9
        (try dsimp only)
        (try k_fold)
        k_steps
        unfold Stop
        rename News _ _ _ _ => hN4
        rename Fr _ _ _ _ => hF4
        refine mid_strs (ws := Mine.wordsOf (pickTo ts i 4)) hF4 hN4 ?q9h ?q9k
        case q9h =>
          --T3
          refine IfExp_ ?_
          k_steps
          · rename News _ _ _ _ => hN5
            rename Fr _ _ _ _ => hF5
            refine ⟨_, pick ts i, _, _, (fun t y => ∃ u, y = .str (nameS t.b) u), rfl, rfl, hF5, hN5, .tail _ (.tail _ (.tail _ (.head _))), ?q9hts, Nat.le_trans pickTo_len (by decide), ?q9turn, ?q9fin⟩
            case q9hts => exact fun t ht => by repeat (first | exact List.mem_append_left _ (List.mem_append_left _ (List.mem_map_of_mem (pickTo_sub t ht))) | refine List.Mem.tail _ ?_)
            case q9turn =>
              intro t3 ys3 I3 oI3 C3 oC3 D3 m3 h3 tk3 E3 ht3 hC3 hx1 hx2 hx3 F3 N3 off3 ne3
              obtain ⟨b1, b2, b3, b4, b5, b6⟩ := htsO t3 (pickTo_sub t3 ht3)
              k_steps
              unfold Stop
              refine' Spec.use ?q9B1 ?q9F1 ?q9X1 ?q9N1 ?q9T1 (name_spec _ _ _ ?q9G1 ?q9G2 _) ?q9D1 ?q9U1 ?_
              (case q9B1 => k_asm); (case q9F1 => k_asm); (case q9X1 => k_asm); (case q9N1 => k_asm); (case q9T1 => k_asm); (case q9G1 => assumption); (case q9G2 => assumption); (case q9D1 => (first | decide | ((try simp only [depth_mark, depth_under_make, depth_under_kw, depth_in1, depth_deeper, depth_caller, recursionLimit]); first | omega | decide))); (case q9U1 => (first | decide | ((have hcL9 := cLine_is); (try simp only [units_in1, units_deeper, Around.mark_units, units_caller]); (try simp only [cLine] at hcL9 ⊢); first | omega | decide)))
              intro v9 n9 h9 tk9 hP9 F9 N9
              obtain ⟨u9, e8, e9⟩ := hP9
              subst e8
              subst e9
              (try dsimp only)
              (try k_fold)
              k_steps
              rename News _ _ _ _ => N8
              rename Fr _ _ _ _ => F8
              exact el_end F8 N8 off3 ⟨_, rfl⟩
            case q9fin =>
              intro ys3 D3 h3 tk3 hE3 F3 N3 off3
              exact MidPost.intro (k := ys3.length) (words_cons (by assumption) (each_strs hE3)) F3 N3 (.head _) (fun p hp => .tail _ (.tail _ hp))
          · rename News _ _ _ _ => hN5
            rename Fr _ _ _ _ => hF5
            exact MidPost.intro (words_nil (by assumption)) hF5 hN5 (.head _) (fun p hp => .tail _ (.tail _ hp))
          --E3
        case q9k =>
          intro D4 vs4 e4 h4' tk4 hS4 F4 N4
          clear hN4 hF4
          (try dsimp only)
          k_steps
          unfold Stop
          rename News _ _ _ _ => hN5
          rename Fr _ _ _ _ => hF5
          clear hS4
          rename StrsAre _ _ => hSw
          have hn4 : 0 ≤ ([a9, b9, c9, d9, e9].getD (Int.toNat 4) 0) := p8
          have hn3 : 0 ≤ ([a9, b9, c9, d9, e9].getD (Int.toNat 4) 0).fdiv 3 := Int.fdiv_nonneg hn4 (by decide)
          have hb0 : 0 ≤ ([a9, b9, c9, d9, e9].getD (Int.toNat 4) 0).fmod 3 := Int.fmod_nonneg_of_pos _ (by decide)
          have hb1 : ([a9, b9, c9, d9, e9].getD (Int.toNat 4) 0).fmod 3 < 3 := Int.fmod_lt_of_pos _ (by decide)
          have hl1 : (besideS (([a9, b9, c9, d9, e9].getD (Int.toNat 4) 0).fdiv 3)).length = 1 := rfl
          have hl2 : (Str.ofString "\t").length = 1 := by decide +kernel
          have hget : ∀ (j : Nat) (wd : Str), (Mine.wordsOf (pickTo ts i 4))[j]? = some wd → NameOk (PySem.Txt.lower wd) ∧ wd.length ≤ 100 ∧ ∃ h0, hs.find? (hdMatch wd) = some h0 ∧ (textsOf ([a9, b9, c9, d9, e9].getD (Int.toNat 4) 0) (pickTo ts i 4))[j]? = some h0.v := f_get htsO htsQ hkv
          have hhd : ∀ h ∈ hs, hdOk h := f_hd htsO hkv
          have hwt : ((textsOf ([a9, b9, c9, d9, e9].getD (Int.toNat 4) 0) (pickTo ts i 4)).map (·.length)).sum + (textsOf ([a9, b9, c9, d9, e9].getD (Int.toNat 4) 0) (pickTo ts i 4)).length ≤ 1048576 := f_wt htsO
          have hjl : (PySem.Txt.join (Str.ofString "") (textsOf ([a9, b9, c9, d9, e9].getD (Int.toNat 4) 0) (pickTo ts i 4))).length ≤ 40 := f_jl htsO
          refine LCg.CompSrc.ledger rfl hF5 hN5 (.tail _ (.head _)) ?q9hz ?_
          case q9hz => (rw [List.size_toArray, hSw.length, sizeLine_eq]; have hw1 := words_len (pickTo ts i 4); have hw2 : (pickTo ts i 4).length ≤ 4 := pickTo_len; omega)
          intro gg2
          refine rest_inv (fun j ys => StrsAre ys ((textsOf ([a9, b9, c9, d9, e9].getD (Int.toNat 4) 0) (pickTo ts i 4)).take j)) ?q9turn ?q9fin .nil
          case q9turn =>
            --T4
            intro j v ys4 I4 oI4 C4 oC4 D5 m4 h5 tk5 E5 hj hv hys hC4 hx4 F5 N5 off5 ne5
            obtain ⟨wd, tw, hwd, rfl⟩ := strs_at hSw (by simpa using hv)
            obtain ⟨hw1, hw2, h0, hw3, hw4⟩ := hget j wd hwd
            k_steps
            unfold Stop
            refine' Spec.use ?q9B1 ?q9F1 ?q9X1 ?q9N1 ?q9T1 (get_specU _ _ _ _ _ _ _ hs _ _ hw1 hw2 hhd h0 hw3 ?q9G1 ?q9G2 ?q9G3 ?q9G4) ?q9D1 ?q9U1 ?_
            (case q9B1 => k_asm); (case q9F1 => k_asm); (case q9X1 => k_asm); (case q9N1 => k_asm); (case q9T1 => k_asm); (case q9G1 => k_mem); (case q9G2 => k_mem); (case q9G3 => k_mem); (case q9G4 => exact fun t ht => by repeat (first | exact List.mem_append_left _ (List.mem_append_right _ (List.mem_map_of_mem ht)) | refine List.Mem.tail _ ?_)); (case q9D1 => (first | decide | ((try simp only [depth_mark, depth_under_make, depth_under_kw, depth_in1, depth_deeper, depth_caller, recursionLimit]); first | omega | decide))); (case q9U1 => (first | decide | ((have hcL9 := cLine_is); (try simp only [units_in1, units_deeper, Around.mark_units, units_caller]); (try simp only [cLine] at hcL9 ⊢); first | omega | decide)))
            intro v9 n9 h9 tk9 hP9 F9 N9
            obtain ⟨⟨u9, e8⟩, e9⟩ := hP9
            subst e8
            subst e9
            (try dsimp only)
            (try k_fold)
            k_steps
            exact in_end F9 N9 off5 (.inr ⟨_, .tail _ (.head _), rfl, _, rfl⟩) (strs_snoc hys hw4)
            --E4
          case q9fin =>
            intro ys4 hys4
            have hys5 : StrsAre ys4 (textsOf ([a9, b9, c9, d9, e9].getD (Int.toNat 4) 0) (pickTo ts i 4)) := by
              rw [List.size_toArray, hSw.length, ← texts_len ([a9, b9, c9, d9, e9].getD (Int.toNat 4) 0) (pickTo ts i 4), List.take_length] at hys4
              exact hys4
            clear hys4
            intro D5 h5 tk5 F5 N5 off5
            (try dsimp only)
            have hLO : LeadOk ts ([a9, b9, c9, d9, e9].getD (Int.toNat 4) 0) (([a9, b9, c9, d9, e9].getD (Int.toNat 4) 0).fmod 3) i := f_lead hn4 htsO hb0 hb1
            k_steps
            unfold Stop
            refine' Spec.use ?q9B1 ?q9F1 ?q9X1 ?q9N1 ?q9T1 (beside_spec _ _ _ ?q9G1 _) ?q9D1 ?q9U1 ?_
            (case q9B1 => k_asm); (case q9F1 => k_asm); (case q9X1 => k_asm); (case q9N1 => k_asm); (case q9T1 => k_asm); (case q9G1 => assumption); (case q9D1 => (first | decide | ((try simp only [depth_mark, depth_under_make, depth_under_kw, depth_in1, depth_deeper, depth_caller, recursionLimit]); first | omega | decide))); (case q9U1 => (first | decide | ((have hcL9 := cLine_is); (try simp only [units_in1, units_deeper, Around.mark_units, units_caller]); (try simp only [cLine] at hcL9 ⊢); first | omega | decide)))
            intro v9 n9 h9 tk9 hP9 F9 N9
            obtain ⟨u9, e8, e9⟩ := hP9
            subst e8
            subst e9
            (try dsimp only)
            (try k_fold)
            k_steps
            unfold Stop
            refine' Spec.use ?q9B1 ?q9F1 ?q9X1 ?q9N1 ?q9T1 (clean_spec _ _ ?q9G1 _ _) ?q9D1 ?q9U1 ?_
            (case q9B1 => k_asm); (case q9F1 => k_asm); (case q9X1 => k_asm); (case q9N1 => k_asm); (case q9T1 => k_asm); (case q9G1 => first | assumption | omega); (case q9D1 => (first | decide | ((try simp only [depth_mark, depth_under_make, depth_under_kw, depth_in1, depth_deeper, depth_caller, recursionLimit]); first | omega | decide))); (case q9U1 => (first | decide | ((have hcL9 := cLine_is); (try simp only [units_in1, units_deeper, Around.mark_units, units_caller]); (try simp only [cLine] at hcL9 ⊢); first | omega | decide)))
            intro v9 n9 h9 tk9 hP9 F9 N9
            obtain ⟨u9, e8, e9⟩ := hP9
            subst e8
            subst e9
            (try dsimp only)
            (try k_fold)
            k_steps
            unfold Stop
            rename News _ _ _ _ => N6
            refine' ws_use ?q9B1 ?q9F1 ?q9X1 ?q9N1 ?q9T1 hLO ?q9D1 ?q9U1 ?_
            (case q9B1 => k_asm); (case q9F1 => k_asm); (case q9X1 => k_asm); (case q9N1 => k_asm); (case q9T1 => k_asm); (case q9D1 => (first | decide | ((try simp only [depth_mark, depth_under_make, depth_under_kw, depth_in1, depth_deeper, depth_caller, recursionLimit]); first | omega | decide))); (case q9U1 => (first | decide | ((have hcL9 := cLine_is); (try simp only [units_in1, units_deeper, Around.mark_units, units_caller]); (try simp only [cLine] at hcL9 ⊢); first | omega | decide)))
            intro ld h9 tk9 hld hobj o1 o2 o3 o4 F9 N9
            clear N6
            have hobj0 := hobj
            unfold leadE at N9 hobj
            simp only [List.cons_append, List.nil_append] at N9
            have hpl : (pickTo ts i 4).length ≤ 4 := pickTo_len
            (try dsimp only)
            (try k_fold)
            k_steps
            rename News _ _ _ _ => hN6
            rename Fr _ _ _ _ => hF6
            refine ⟨_, pick ts i, _, _, (fun t y => ∃ u, y = .int (t.p + 1) u), rfl, rfl, hF6, hN6, .tail _ (.tail _ (.tail _ (.tail _ (.tail _ (.tail _ (.tail _ (.tail _ (.head _)))))))), ?q9hts, Nat.le_trans pickTo_len (by decide), ?q9turn, ?q9fin⟩
            case q9hts => exact fun t ht => by repeat (first | exact List.mem_append_left _ (List.mem_append_left _ (List.mem_map_of_mem (pickTo_sub t ht))) | refine List.Mem.tail _ ?_)
            case q9turn =>
              --T5
              intro t3 ys3 I3 oI3 C3 oC3 D3 m3 h3 tk3 E3 ht3 hC3 hx1 hx2 hx3 F3 N3 off3 ne3
              k_steps
              exact el_end F3 N3 off3 ⟨_, rfl⟩
              --E5
            case q9fin =>
              intro ys6 D6 h6 tk6 hE6 F6 N6 off6
              have hI6 := each_ints hE6
              clear hE6
              k_steps
              try any_goals exact absurd rfl (by assumption)
              · unfold Stop
                rename News _ _ _ _ => hN7
                rename Fr _ _ _ _ => hF7
                have q1 : @LT.lt Nat _ _ _ := o1 (_, W.listOf (List.map Ld.ref c.lds).toArray c.e) (.tail _ (.tail _ (.tail _ (.tail _ (.tail _ (.tail _ (.head _)))))))
                have qI : @LT.lt Nat _ _ _ := o1 (I, oI) (.tail _ (.tail _ (.tail _ (.tail _ (.tail _ (.head _))))))
                have no := lead_ne hobj0 q1 o2 o3 o4
                have nI := lead_ne hobj0 qI o2 o3 o4
                refine' lw_append (ld := ld) (oI := oI) off0 hF7 hN7 ?q9hI ?q9hL ?q9m4 ?q9m1 ?q9m2 ?q9m3 ?q9m5 ?q9m6 ?q9m7 ?q9m8 ?q9m9 ?q9m10 ?q9m11 ?q9m12 ?q9mt ?q9mo ?q9n4 ?q9n1 ?q9n2 ?q9n3 ?q9n5 ?q9n6 ?q9n7 ?q9n8 ?q9n9 ?q9n10 ?q9n11 ?q9n12 hll no ?q9hz ?q9h
                case q9hI => k_mem
                case q9hL => k_mem
                case q9m4 => k_mem
                case q9m1 => k_mem
                case q9m2 => k_mem
                case q9m3 => k_mem
                case q9m5 => k_mem
                case q9m6 => k_mem
                case q9m7 => k_mem
                case q9m8 => k_mem
                case q9m9 => k_mem
                case q9m10 => k_mem
                case q9m11 => k_mem
                case q9m12 => k_mem
                case q9mt => exact fun p hp => by repeat (first | exact hp | refine List.Mem.tail _ ?_)
                case q9mo => exact fun p hp => by rw [hobj] at hp; exact .tail _ (List.mem_append_left _ hp)
                case q9hz => omega
                case q9h =>
                  intro h8 F8 N8
                  k_steps
                  exact hQT _ (lw_end off0 F8 N8 hlen hok hld (by assumption) hll no nI lw_keep)
                all_goals first | exact Nat.ne_of_lt g1 | exact Nat.ne_of_lt g2 | exact Nat.ne_of_lt g3 | exact Nat.ne_of_lt g4 | exact Nat.ne_of_lt g5 | exact Nat.ne_of_lt g6 | exact Nat.ne_of_lt g7 | exact Nat.ne_of_lt g8 | exact Nat.ne_of_lt g9 | exact Nat.ne_of_lt g10 | exact Nat.ne_of_lt g11 | exact Nat.ne_of_lt g12
    --E0
  case q9done =>
    intro c u h tk v4 hlen hok h4 hnc F N
    clear hF hN
    unfold lwLed at N
    k_steps
    rename News _ _ _ _ => hN
    rename Fr _ _ _ _ => hF
    rename IsRange _ _ _ _ _ _ _ _ => hR
    refine' sz_loop rfl hR hF (sz_perm hN) ?q9h5 ?q9h6 ?q9h7 ?q9turnS ?q9doneS
    case q9h5 => with_unfolding_all assumption
    case q9h6 => with_unfolding_all assumption
    case q9h7 => with_unfolding_all assumption
    case q9turnS =>
      intro c2 i size t I oI u2 h tk v5 v6 v7 s1 s4 f5 f6 f7 off F N QS hQS
      clear hF hN
      have off0 := off
      unfold szLed at off
      have i5 : @Ne Nat _ _ := off _ (.head _)
      have i6 : @Ne Nat _ _ := off _ (.tail _ (.head _))
      have i7 : @Ne Nat _ _ := off _ (.tail _ (.tail _ (.head _)))
      dsimp only at i5 i6 i7
      have i5' := i5.symm
      have i6' := i6.symm
      have i7' := i7.symm
      k_steps
      unfold Stop
      rename News _ _ _ _ => hN5
      rename Fr _ _ _ _ => hF5
      refine LCg.CompSrc.ledger rfl hF5 hN5 (.tail _ (.tail _ (.tail _ (.tail _ (.head _))))) ?q9hz ?_
      case q9hz => (rw [List.size_toArray, List.length_map, hlen, sizeLine_eq]; omega)
      intro gg2
      refine rest_inv (fun j ys => IntsAre ys ((List.range j).map (colI ts (([a9, b9, c9, d9, e9].getD (Int.toNat 4) 0).fmod 3) size))) ?q9turn ?q9fin .nil
      case q9turn =>
        --T6
        intro j v ys4 I4 oI4 C4 oC4 D5 m4 h5 tk5 E5 hj hv hys hC4 hx4 F5 N5 off5 ne5
        obtain ⟨ld, hld, rfl⟩ := lds_at hv
        obtain ⟨k1, k2, k3, k4⟩ := hok j ld hld
        have N6 := ld_front N5 (fun p hp => by repeat (first | exact List.mem_append_right _ hp | refine List.Mem.tail _ ?_)) hld
        clear N5
        k_steps
        unfold Stop
        refine' Spec.use ?q9B1 ?q9F1 ?q9X1 ?q9N1 ?q9T1 (indent_specU _ ld k1 k2 size _ s1 s4 _ ?q9G1) ?q9D1 ?q9U1 ?_
        (case q9B1 => k_asm); (case q9F1 => k_asm); (case q9X1 => k_asm); (case q9N1 => k_asm); (case q9T1 => k_asm); (case q9G1 => exact fun p hp => List.mem_append_left _ hp); (case q9D1 => (first | decide | ((try simp only [depth_mark, depth_under_make, depth_under_kw, depth_in1, depth_deeper, depth_caller, recursionLimit]); first | omega | decide))); (case q9U1 => (first | decide | ((have hcL9 := cLine_is); (try simp only [units_in1, units_deeper, Around.mark_units, units_caller]); (try simp only [cLine] at hcL9 ⊢); first | omega | decide)))
        intro v9 n9 h9 tk9 hP9 F9 N9
        obtain ⟨⟨u9, e8⟩, e9⟩ := hP9
        subst e8
        subst e9
        (try dsimp only)
        (try k_fold)
        k_steps
        exact in_end F9 (fun p hp => N9 p (.tail _ (.tail _ (.tail _ (.tail _ hp))))) off5 (.inr ⟨_, .tail _ (.tail _ (.tail _ (.tail _ (.head _)))), rfl, _, rfl⟩) (ints_snoc hys (k4 size s1 s4))
        --E6
      case q9fin =>
        intro ys5 hys5
        intro D5 h5 tk5 F5 N5 off5
        (try dsimp only)
        k_steps
        rename News _ _ _ _ => hN6
        rename Fr _ _ _ _ => hF6
        refine' du_loop (ts := ts) (size := size) rfl ?q9hS ?q9hts hF6 hN6 ?q9hd ?q9turnD ?q9doneD
        case q9hS => k_mem
        case q9hts => exact fun t ht => by repeat (first | exact List.mem_append_left _ (List.mem_append_left _ (List.mem_map_of_mem ht)) | refine List.Mem.tail _ ?_)
        case q9hd => exact if_pos rfl
        case q9turnD =>
          --T7
          intro c3 i3 t3 D3 I3 oI3 u3 h3 tk3 ht3 hm3 hD3 off3 F3 N3 QD hQD
          clear hN6 hF6
          obtain ⟨b1, b2, b3, b4, b5, b6⟩ := htsO t3 hm3
          obtain ⟨q1, q2⟩ := pile_div s1 (htsO t3 hm3)
          have hz0 : ¬ size = 0 := by omega
          k_steps
          rename News _ _ _ _ => hN7
          rename Fr _ _ _ _ => hF7
          exact hQD _ (du_end ht3 hD3 hF7 hN7 (fun p hp => .tail _ (.tail _ hp)) (.head _) off3 du_keep)
          --E7
        case q9doneD =>
          intro c3 u3 h3 tk3 F3 N3
          clear hN6 hF6
          k_steps
          rename News _ _ _ _ => hN7
          rename Fr _ _ _ _ => hF7
          rename IsRange _ _ _ _ _ _ _ _ => hR7
          have hys5' : IntsAre ys5 (colsI ts (([a9, b9, c9, d9, e9].getD (Int.toNat 4) 0).fmod 3) size) := by
            rw [List.size_toArray, List.length_map, hlen] at hys5
            exact hys5
          clear hys5
          refine' pw_loop rfl hR7 hF7 (pw_perm hN7) f7 ?q9turnP ?q9doneP
          case q9turnP =>
            --T8
            intro c4 i4 pw t4 I6 oI6 u6 h6 tk6 v7' p1 p4 f7' off6 F6 N6 QP hQP
            clear hN7 hF7
            have i8 : @Ne Nat _ _ := off6 _ (.head _)
            dsimp only at i8
            have i8' := i8.symm
            k_steps
            unfold Stop
            rename News _ _ _ _ => hN8
            rename Fr _ _ _ _ => hF8
            rename IsRange _ _ _ _ _ _ _ _ => hR8
            refine LCg.CompSrc.range (n := 16) rfl hF8 hN8 hR8 (by decide) (by rfl) (by decide) ?_
            intro gg3
            refine rest_inv (fun j ys => IntsAre ys ((List.range j).map (toldF ts (([a9, b9, c9, d9, e9].getD (Int.toNat 4) 0).fmod 3) size pw))) ?q9turn ?q9fin .nil
            case q9turn =>
              --T9
              intro j v ys9 I9 oI9 C9 oC9 D9 m9 h9 tk9 E9 hj hv hys hC9 hx9 F9 N9 off9 ne9
              obtain ⟨t9, rfl⟩ := hv
              obtain ⟨ld, hld⟩ : ∃ ld, c.lds[j]? = some ld := ⟨_, List.getElem?_eq_getElem (by omega)⟩
              obtain ⟨k1, k2, k3, k4⟩ := hok j ld hld
              have ej : (0 + (j : Int)).toNat = j := by omega
              have hlx : c.lds[(0 + (j : Int)).toNat]? = some ld := by rw [ej]; exact hld
              have hcx : (colsI ts (([a9, b9, c9, d9, e9].getD (Int.toNat 4) 0).fmod 3) size)[(0 + (j : Int)).toNat]? = some (colI ts (([a9, b9, c9, d9, e9].getD (Int.toNat 4) 0).fmod 3) size j) := cols_at hj
              obtain ⟨hc0, hc1⟩ := col_bound (j := j) htsO s1 s4 (Int.fmod_nonneg_of_pos ([a9, b9, c9, d9, e9].getD (Int.toNat 4) 0) (show (0 : Int) < 3 by decide)) (Int.fmod_lt_of_pos _ (by decide))
              have hf0 : 0 ≤ ((pick ts j).length : Int).fmod 2 := Int.fmod_nonneg_of_pos _ (by decide)
              have hf1 : ((pick ts j).length : Int).fmod 2 < 2 := Int.fmod_lt_of_pos _ (by decide)
              have N10 := ld_front N9 (fun p hp => by repeat (first | exact List.mem_append_right _ hp | refine List.Mem.tail _ ?_)) hld
              rw [k3] at N10
              clear N9
              k_steps
              exact in_end F9 (fun p hp => N10 p (.tail _ (.tail _ (.tail _ (.tail _ hp))))) off9 trivial (ints_snoc hys rfl)
              --E9
            case q9fin =>
              intro ys6 hys6
              intro D6 h7 tk7 F7 N7 off7
              (try dsimp only)
              have hE4 : pw = 4 → ((List.range 16).map (toldF ts (([a9, b9, c9, d9, e9].getD (Int.toNat 4) 0).fmod 3) size pw)).sum = dueTo size ts := fun h => f_four hts4 h
              have hE0 : pw ≠ 4 → ((List.range 16).map (toldF ts (([a9, b9, c9, d9, e9].getD (Int.toNat 4) 0).fmod 3) size pw)).sum = 0 := fun h => f_low hts4 p1 p4 h
              k_steps
              try any_goals first | exact absurd (hE4 (by assumption)) (by assumption) | exact absurd (hE0 (by assumption)) (by assumption) | fail
              all_goals
                rename News _ _ _ _ => hN9
                rename Fr _ _ _ _ => hF9
                refine hQP _ ?_
                refine' pw_end hF9 hN9 ?q9e1 ?q9e2 ?q9e3 ?q9e4 off6 pw_keep
                case q9e1 => k_mem
                case q9e2 => assumption
                case q9e3 => exact fun p hp => by repeat (first | exact hp | refine List.Mem.tail _ ?_)
                case q9e4 => k_mem
            --E8
          case q9doneP =>
            intro c4 u6 h6 tk6 v7' f7' F6 N6
            clear hN7 hF7
            k_steps
            try any_goals exact absurd rfl (by assumption)
            all_goals
              rename News _ _ _ _ => hN9
              rename Fr _ _ _ _ => hF9
              refine hQS _ ?_
              refine' sz_end hF9 hN9 ?q9e1 ?q9e2 ?q9e3 ?q9e4 ?q9e5 ?q9e6 ?q9e7 ?q9e8 off0 sz_keep
              case q9e1 => k_mem
              case q9e2 => k_mem
              case q9e3 => k_mem
              case q9e4 => assumption
              case q9e5 => assumption
              case q9e6 => assumption
              case q9e7 => exact fun p hp => by repeat (first | exact hp | refine List.Mem.tail _ ?_)
              case q9e8 => k_mem
    case q9doneS =>
      intro c2 u2 h tk F N
      clear hF hN
      k_steps
      dsimp only
      exact hret77 _ _ _ F
